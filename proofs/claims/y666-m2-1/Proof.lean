import JvmDerived
import JvmDerived.Pilot.@@N@@Statement
import JvmDerived.Pilot.@@N@@Code
set_option linter.unusedVariables false
set_option linter.unusedSimpArgs false
namespace Jvm.Pilot.@@N@@
open Jvm Jvm.ClassFile Sem Op Lib Jvm.Free Jvm.Stand Jvm.LawKit Jvm.RoadKit Bundle Jvm.Pilot.@@N@@.Jvm.D
/-- from the frame g over T the run comes to its end, and P holds of what comes out -/
def Wp (p : Program) (e : Env) (below : List Frame) (P : Outcome → State → Prop) (T : State) (g : JFrame) : Prop := ∃ s₂ o, Steps p.tables e below (T.setTop g) s₂ ∧ s₂.status = .running ∧ Ended s₂ below o ∧ P o s₂
/-- where a walk stands -/
def WS (p : Program) (l : Launch) (e : Env) (R : Room) (s : State) (m : MethodId) (args : Array Value) (below : List Frame) (meth : Method) (c : Code) (Z : State) (EL : List (String × Nat)) (n0 : Nat) (own : String) (code : ByteArray) (ml : Nat) (bw : Bool) (vm : Vm) (T : State) (h : Heap) (locs : List Loc) (cells slots : Nat) : Prop :=
  Stand p l e R (s.setVm vm) m args below meth c T locs cells slots ∧ T.heap = h ∧ Z.Warmed39 (s.setVm vm).vm ∧ (s.setVm vm).vm.findClass own = some m.cls ∧ p.tables.exec = Jvm.exec ∧ c.code = code ∧ c.maxLocals = ml ∧ Fr n0 locs ∧ Old Z n0 h ∧ ((bw = false ∧ vm = s.vm) ∨ (bw = true ∧ (∃ k, s.Since vm k ∧ k ≤ h.size) ∧ CHr Z EL s.vm s.heap vm h))
/-- what a callee's payer gives: a callee that interns nothing -/
def BkN (l : Launch) (R : Room) (p : Program) (e : Env) (below : List Frame) (s : State) (args : Array Value) (y : MethodName) (len W : Nat) (as' : Array Value) (h : Heap) (n0 : Nat) (wr : List Addr) (Q : Option Value → Heap → Prop) (kc ks : Nat) : Prop := Back l R p e below s args y len W (fun B a => a = as' ∧ B.U.heap = h ∧ B.cells + kc ≤ R.cells ∧ B.slots + ks ≤ R.slots) (fun B _ v B' => ∃ L, (Fr n0 L ∧ Keep h B'.U.heap wr ∧ Q v B'.U.heap) ∧ B'.locs = B.locs ++ L ∧ B'.cells = B.cells + kc ∧ B'.slots = B.slots + ks)
/-- .. and one that may -/
def BkS (l : Launch) (R : Room) (p : Program) (e : Env) (below : List Frame) (s : State) (args : Array Value) (y : MethodName) (len W : Nat) (as' : Array Value) (h : Heap) (n0 : Nat) (wr : List Addr) (Q : Option Value → Heap → Prop) (kc ks : Nat) (Z : State) (EL : List (String × Nat)) (vm : Vm) : Prop := BackS l R p e below s args y len W (fun B a => a = as' ∧ B.U.heap = h ∧ B.cells + kc ≤ R.cells ∧ B.slots + ks ≤ R.slots) (fun B _ v B' => ∃ L, (Fr n0 L ∧ Keep h B'.U.heap wr ∧ Q v B'.U.heap) ∧ B'.locs = B.locs ++ L ∧ B'.cells = B.cells + kc ∧ B'.slots = B.slots + ks ∧ CHr Z EL vm h B'.U.vm B'.U.heap)
section OwnKit
variable {p : Program} {l : Launch} {e : Env} {R : Room} {s : State} {m : MethodId} {args : Array Value} {below : List Frame} {meth : Method} {c : Code} {Z : State} {EL : List (String × Nat)} {n0 : Nat} {own : String} {code : ByteArray} {ml : Nat} {bw : Bool} {vm : Vm} {T : State} {h : Heap} {locs : List Loc} {cells slots : Nat} {P : Outcome → State → Prop} {pc pc' : Nat} {L : Array Slot} {S : List Value} {a0 : Array Value}
theorem Wp.go {T T' : State} {g g' : JFrame} (k : Wp p e below P T' g') (st : ∀ t, Steps p.tables e below (T'.setTop g') t → Steps p.tables e below (T.setTop g) t) : Wp p e below P T g := by
  obtain ⟨s₂, o, a, r⟩ := k; exact ⟨s₂, o, st _ a, r⟩
theorem Wp.gos {T T' : State} {g g' : JFrame} (k : Wp p e below P T' g') (st : Steps p.tables e below (T.setTop g) (T'.setTop g')) : Wp p e below P T g := by
  obtain ⟨s₂, o, a, r⟩ := k; exact ⟨s₂, o, st.trans a, r⟩
abbrev wN (bw : Bool) (Z : State) (EL : List (String × Nat)) (vm : Vm) (h : Heap) (a : Addr) : Prop := bw = true → Safe Z EL vm h a
/-- a step of the tables alone -/
theorem WS.still {T' : State} (A : WS p l e R s m args below meth c Z EL n0 own code ml bw vm T h locs cells slots) (X : Stand p l e R (s.setVm vm) m args below meth c T' locs cells slots) (q : T'.heap = h) : WS p l e R s m args below meth c Z EL n0 own code ml bw vm T' h locs cells slots :=
  ⟨X, q, A.2.2⟩
theorem WS.grow {T' : State} {h' : Heap} {k n : Nat} (A : WS p l e R s m args below meth c Z EL n0 own code ml bw vm T h locs cells slots) (X : Stand p l e R (s.setVm vm) m args below meth c T' locs k n) (q : T'.heap = h') (E : Ext h h') : WS p l e R s m args below meth c Z EL n0 own code ml bw vm T' h' locs k n := by
  obtain ⟨-, -, a3, a4, a5, a6, a7, a8, a9, b⟩ := A
  refine ⟨X, q, a3, a4, a5, a6, a7, a8, a9.ext E, b.imp id fun ⟨b1, ⟨k, b2, b3⟩, b4⟩ => ⟨b1, ⟨k, b2, Nat.le_trans b3 E.1⟩, b4.trans (CHr.ext E b4.1)⟩⟩
theorem WS.kept {T' : State} {h' : Heap} {locs' : List Loc} {k n : Nat} {ws : List Addr} (A : WS p l e R s m args below meth c Z EL n0 own code ml bw vm T h locs cells slots) (X : Stand p l e R (s.setVm vm) m args below meth c T' locs' k n) (q : T'.heap = h') (N : Fr n0 locs') (K : Keep h h' ws) (hn : ∀ x ∈ ws, n0 ≤ x) (sf : bw = true → ∀ x ∈ ws, Safe Z EL vm h x) : WS p l e R s m args below meth c Z EL n0 own code ml bw vm T' h' locs' k n := by
  obtain ⟨-, -, a3, a4, a5, a6, a7, a8, a9, b⟩ := A
  refine ⟨X, q, a3, a4, a5, a6, a7, N, a9.keep K hn, b.imp id fun ⟨b1, ⟨k, b2, b3⟩, b4⟩ => ⟨b1, ⟨k, b2, Nat.le_trans b3 K.1⟩, b4.trans (CHr.keep K (sf b1) b4.1)⟩⟩
theorem WS.more {k n : Nat} (A : WS p l e R s m args below meth c Z EL n0 own code ml bw vm T h locs cells slots) (hk : cells ≤ k) (hn : slots ≤ n) : WS p l e R s m args below meth c Z EL n0 own code ml bw vm T h locs k n := ⟨A.1.more hk hn, A.2⟩
theorem WS.old (A : WS p l e R s m args below meth c Z EL n0 own code ml bw vm T h locs cells slots) : Old Z n0 h := A.2.2.2.2.2.2.2.2.1
theorem WS.sz (A : WS p l e R s m args below meth c Z EL n0 own code ml bw vm T h locs cells slots) : n0 ≤ h.size := by have q := A.old; exact q.1 ▸ q.2.1
theorem WS.hZ (A : WS p l e R s m args below meth c Z EL n0 own code ml bw vm T h locs cells slots) : Z.Warmed39 (s.setVm vm).vm := A.2.2.1
theorem WS.ch (A : WS p l e R s m args below meth c Z EL n0 own code ml bw vm T h locs cells slots) (q : bw = true) : CHr Z EL s.vm s.heap vm h := by
  obtain ⟨-, -, -, -, -, -, -, -, -, b⟩ := A
  rcases b with ⟨b, -⟩ | ⟨-, -, b⟩
  · rw [b] at q; cases q
  · exact b
theorem wd {ws : List Jvm.Cond} (hw : ∀ d ∈ ws, d.before a0 Z = true) (i : Nat) {d : Jvm.Cond} (q : ws[i]? = some d) : d.before a0 Z = true := hw _ (List.mem_of_getElem? q)
theorem Fld.ks {a : Addr} {C n d : String} {v : Value} {h h' : Heap} {ws : List Addr} (F : Fld Z h a C n d v) (K : Keep h h' ws) (q : a ∉ ws) : Fld Z h' a C n d v := F.keep K q

theorem f_iload (A : WS p l e R s m args below meth c Z EL n0 own code ml bw vm T h locs cells slots) {i : Nat} {v : Int32} (hd : decode code pc = .ok (.iload i, 2)) (hp : pc + 2 = pc') (hl : L[i]? = some (.val (.int v))) (k : Wp p e below P T (mkF m pc' L (.int v :: S))) : Wp p e below P T (mkF m pc L S) := by
  subst hp; exact k.go fun _ q => XS.iload A.1.here A.2.2.2.2.1 rfl (hb A.2.2.2.2.2.1 hd) hl q
theorem f_iloadN (A : WS p l e R s m args below meth c Z EL n0 own code ml bw vm T h locs cells slots) {i : Fin 4} {v : Int32} (hd : decode code pc = .ok (.iload_n i, 1)) (hp : pc + 1 = pc') (hl : L[i.val]? = some (.val (.int v))) (k : Wp p e below P T (mkF m pc' L (.int v :: S))) : Wp p e below P T (mkF m pc L S) := by
  subst hp; exact k.go fun _ q => XS.iloadN A.1.here A.2.2.2.2.1 rfl (hb A.2.2.2.2.2.1 hd) hl q
theorem f_istore (A : WS p l e R s m args below meth c Z EL n0 own code ml bw vm T h locs cells slots) {i : Nat} {v : Int32} {L' : Array Slot} (hd : decode code pc = .ok (.istore i, 2)) (hp : pc + 2 = pc') (hl : storeLocals L i (.int v) = some L') (k : Wp p e below P T (mkF m pc' L' S)) : Wp p e below P T (mkF m pc L (.int v :: S)) := by
  subst hp; exact k.go fun _ q => XS.istore A.1.here A.2.2.2.2.1 rfl (hb A.2.2.2.2.2.1 hd) rfl hl q
theorem f_istoreN (A : WS p l e R s m args below meth c Z EL n0 own code ml bw vm T h locs cells slots) {i : Fin 4} {v : Int32} {L' : Array Slot} (hd : decode code pc = .ok (.istore_n i, 1)) (hp : pc + 1 = pc') (hl : storeLocals L i.val (.int v) = some L') (k : Wp p e below P T (mkF m pc' L' S)) : Wp p e below P T (mkF m pc L (.int v :: S)) := by
  subst hp; exact k.go fun _ q => XS.istoreN A.1.here A.2.2.2.2.1 rfl (hb A.2.2.2.2.2.1 hd) rfl hl q
theorem f_lload (A : WS p l e R s m args below meth c Z EL n0 own code ml bw vm T h locs cells slots) {i : Nat} {v : Int64} (hd : decode code pc = .ok (.lload i, 2)) (hp : pc + 2 = pc') (hl : L[i]? = some (.val (.long v))) (k : Wp p e below P T (mkF m pc' L (.long v :: S))) : Wp p e below P T (mkF m pc L S) := by
  subst hp; exact k.go fun _ q => XS.lload A.1.here A.2.2.2.2.1 rfl (hb A.2.2.2.2.2.1 hd) hl q
theorem f_lloadN (A : WS p l e R s m args below meth c Z EL n0 own code ml bw vm T h locs cells slots) {i : Fin 4} {v : Int64} (hd : decode code pc = .ok (.lload_n i, 1)) (hp : pc + 1 = pc') (hl : L[i.val]? = some (.val (.long v))) (k : Wp p e below P T (mkF m pc' L (.long v :: S))) : Wp p e below P T (mkF m pc L S) := by
  subst hp; exact k.go fun _ q => XS.lloadN A.1.here A.2.2.2.2.1 rfl (hb A.2.2.2.2.2.1 hd) hl q
theorem f_lstore (A : WS p l e R s m args below meth c Z EL n0 own code ml bw vm T h locs cells slots) {i : Nat} {v : Int64} {L' : Array Slot} (hd : decode code pc = .ok (.lstore i, 2)) (hp : pc + 2 = pc') (hl : storeLocals L i (.long v) = some L') (k : Wp p e below P T (mkF m pc' L' S)) : Wp p e below P T (mkF m pc L (.long v :: S)) := by
  subst hp; exact k.go fun _ q => XS.lstore A.1.here A.2.2.2.2.1 rfl (hb A.2.2.2.2.2.1 hd) rfl hl q
theorem f_lstoreN (A : WS p l e R s m args below meth c Z EL n0 own code ml bw vm T h locs cells slots) {i : Fin 4} {v : Int64} {L' : Array Slot} (hd : decode code pc = .ok (.lstore_n i, 1)) (hp : pc + 1 = pc') (hl : storeLocals L i.val (.long v) = some L') (k : Wp p e below P T (mkF m pc' L' S)) : Wp p e below P T (mkF m pc L (.long v :: S)) := by
  subst hp; exact k.go fun _ q => XS.lstoreN A.1.here A.2.2.2.2.1 rfl (hb A.2.2.2.2.2.1 hd) rfl hl q
theorem f_aload (A : WS p l e R s m args below meth c Z EL n0 own code ml bw vm T h locs cells slots) {i : Nat} {v : Value} (hd : decode code pc = .ok (.aload i, 2)) (hp : pc + 2 = pc') (hl : L[i]? = some (.val v)) (hv : v.isRef = true) (k : Wp p e below P T (mkF m pc' L (v :: S))) : Wp p e below P T (mkF m pc L S) := by
  subst hp; exact k.go fun _ q => XS.aload A.1.here A.2.2.2.2.1 rfl (hb A.2.2.2.2.2.1 hd) hl hv q
theorem f_aloadN (A : WS p l e R s m args below meth c Z EL n0 own code ml bw vm T h locs cells slots) {i : Fin 4} {v : Value} (hd : decode code pc = .ok (.aload_n i, 1)) (hp : pc + 1 = pc') (hl : L[i.val]? = some (.val v)) (hv : v.isRef = true) (k : Wp p e below P T (mkF m pc' L (v :: S))) : Wp p e below P T (mkF m pc L S) := by
  subst hp; exact k.go fun _ q => XS.aloadN A.1.here A.2.2.2.2.1 rfl (hb A.2.2.2.2.2.1 hd) hl hv q
theorem f_astore (A : WS p l e R s m args below meth c Z EL n0 own code ml bw vm T h locs cells slots) {i : Nat} {v : Value} {L' : Array Slot} (hd : decode code pc = .ok (.astore i, 2)) (hp : pc + 2 = pc') (hv : v.isRef = true) (hl : storeLocals L i v = some L') (k : Wp p e below P T (mkF m pc' L' S)) : Wp p e below P T (mkF m pc L (v :: S)) := by
  subst hp; exact k.go fun _ q => XS.astore A.1.here A.2.2.2.2.1 rfl (hb A.2.2.2.2.2.1 hd) rfl hv hl q
theorem f_astoreN (A : WS p l e R s m args below meth c Z EL n0 own code ml bw vm T h locs cells slots) {i : Fin 4} {v : Value} {L' : Array Slot} (hd : decode code pc = .ok (.astore_n i, 1)) (hp : pc + 1 = pc') (hv : v.isRef = true) (hl : storeLocals L i.val v = some L') (k : Wp p e below P T (mkF m pc' L' S)) : Wp p e below P T (mkF m pc L (v :: S)) := by
  subst hp; exact k.go fun _ q => XS.astoreN A.1.here A.2.2.2.2.1 rfl (hb A.2.2.2.2.2.1 hd) rfl hv hl q
theorem f_iconst (A : WS p l e R s m args below meth c Z EL n0 own code ml bw vm T h locs cells slots) {i : Int} (hd : decode code pc = .ok (.iconst i, 1)) (hp : pc + 1 = pc') (v : Int32) (hv : Int32.ofInt i = v) (k : Wp p e below P T (mkF m pc' L (.int v :: S))) : Wp p e below P T (mkF m pc L S) := by
  subst hp hv; exact k.go fun _ q => XS.iconst A.1.here A.2.2.2.2.1 rfl (hb A.2.2.2.2.2.1 hd) q
theorem f_bipush (A : WS p l e R s m args below meth c Z EL n0 own code ml bw vm T h locs cells slots) {i : Int} (hd : decode code pc = .ok (.bipush i, 2)) (hp : pc + 2 = pc') (v : Int32) (hv : (Int8.ofInt i).toInt32 = v) (k : Wp p e below P T (mkF m pc' L (.int v :: S))) : Wp p e below P T (mkF m pc L S) := by
  subst hp hv; exact k.go fun _ q => XS.bipush A.1.here A.2.2.2.2.1 rfl (hb A.2.2.2.2.2.1 hd) q
theorem f_sipush (A : WS p l e R s m args below meth c Z EL n0 own code ml bw vm T h locs cells slots) {i : Int} (hd : decode code pc = .ok (.sipush i, 3)) (hp : pc + 3 = pc') (v : Int32) (hv : (Int16.ofInt i).toInt32 = v) (k : Wp p e below P T (mkF m pc' L (.int v :: S))) : Wp p e below P T (mkF m pc L S) := by
  subst hp hv; exact k.go fun _ q => XS.sipush A.1.here A.2.2.2.2.1 rfl (hb A.2.2.2.2.2.1 hd) q
theorem f_lconst (A : WS p l e R s m args below meth c Z EL n0 own code ml bw vm T h locs cells slots) {i : Fin 2} (hd : decode code pc = .ok (.lconst i, 1)) (hp : pc + 1 = pc') (v : Int64) (hv : Int64.ofNat i = v) (k : Wp p e below P T (mkF m pc' L (.long v :: S))) : Wp p e below P T (mkF m pc L S) := by
  subst hp hv; exact k.go fun _ q => XS.lconst A.1.here A.2.2.2.2.1 rfl (hb A.2.2.2.2.2.1 hd) q
theorem f_aconst_null (A : WS p l e R s m args below meth c Z EL n0 own code ml bw vm T h locs cells slots) (hd : decode code pc = .ok (.aconst_null, 1)) (hp : pc + 1 = pc') (k : Wp p e below P T (mkF m pc' L (.null :: S))) : Wp p e below P T (mkF m pc L S) := by
  subst hp; exact k.go fun _ q => XS.aconstNull A.1.here A.2.2.2.2.1 rfl (hb A.2.2.2.2.2.1 hd) q
theorem f_ldcI (A : WS p l e R s m args below meth c Z EL n0 own code ml bw vm T h locs cells slots) {i : Nat} {v : Int32} (hd : decode code pc = .ok (.ldc i, 2)) (hp : pc + 2 = pc') (w : (Cond.constant own i v).before a0 Z = true) (k : Wp p e below P T (mkF m pc' L (.int v :: S))) : Wp p e below P T (mkF m pc L S) := by
  subst hp; exact k.go fun t q => A.1.ldcInt A.2.2.2.2.1 A.2.2.2.1 (mvT A.hZ w) (g := mkF m pc L S) rfl (hb A.2.2.2.2.2.1 hd) t q
theorem f_ldc2J (A : WS p l e R s m args below meth c Z EL n0 own code ml bw vm T h locs cells slots) {i : Nat} {v : Int64} (hd : decode code pc = .ok (.ldc2_w i, 3)) (hp : pc + 3 = pc') (w : (Cond.constantLong own i v).before a0 Z = true) (k : Wp p e below P T (mkF m pc' L (.long v :: S))) : Wp p e below P T (mkF m pc L S) := by
  subst hp; exact k.go fun t q => A.1.ldc2Long A.2.2.2.2.1 A.2.2.2.1 (mvT A.hZ w) (g := mkF m pc L S) rfl (hb A.2.2.2.2.2.1 hd) t q
theorem f_iadd (A : WS p l e R s m args below meth c Z EL n0 own code ml bw vm T h locs cells slots) {x y : Int32} (hd : decode code pc = .ok (.iadd, 1)) (hp : pc + 1 = pc') (z : Int32) (hz : x + y = z) (k : Wp p e below P T (mkF m pc' L (.int z :: S))) : Wp p e below P T (mkF m pc L (.int y :: .int x :: S)) := by
  subst hp hz; exact k.go fun _ q => XS.iadd A.1.here A.2.2.2.2.1 rfl (hb A.2.2.2.2.2.1 hd) rfl q
theorem f_isub (A : WS p l e R s m args below meth c Z EL n0 own code ml bw vm T h locs cells slots) {x y : Int32} (hd : decode code pc = .ok (.isub, 1)) (hp : pc + 1 = pc') (z : Int32) (hz : x - y = z) (k : Wp p e below P T (mkF m pc' L (.int z :: S))) : Wp p e below P T (mkF m pc L (.int y :: .int x :: S)) := by
  subst hp hz; exact k.go fun _ q => XS.isub A.1.here A.2.2.2.2.1 rfl (hb A.2.2.2.2.2.1 hd) rfl q
theorem f_imul (A : WS p l e R s m args below meth c Z EL n0 own code ml bw vm T h locs cells slots) {x y : Int32} (hd : decode code pc = .ok (.imul, 1)) (hp : pc + 1 = pc') (z : Int32) (hz : x * y = z) (k : Wp p e below P T (mkF m pc' L (.int z :: S))) : Wp p e below P T (mkF m pc L (.int y :: .int x :: S)) := by
  subst hp hz; exact k.go fun _ q => XS.imul A.1.here A.2.2.2.2.1 rfl (hb A.2.2.2.2.2.1 hd) rfl q
theorem f_iand (A : WS p l e R s m args below meth c Z EL n0 own code ml bw vm T h locs cells slots) {x y : Int32} (hd : decode code pc = .ok (.iand, 1)) (hp : pc + 1 = pc') (z : Int32) (hz : x &&& y = z) (k : Wp p e below P T (mkF m pc' L (.int z :: S))) : Wp p e below P T (mkF m pc L (.int y :: .int x :: S)) := by
  subst hp hz; exact k.go fun _ q => XS.iand A.1.here A.2.2.2.2.1 rfl (hb A.2.2.2.2.2.1 hd) rfl q
theorem f_ior (A : WS p l e R s m args below meth c Z EL n0 own code ml bw vm T h locs cells slots) {x y : Int32} (hd : decode code pc = .ok (.ior, 1)) (hp : pc + 1 = pc') (z : Int32) (hz : x ||| y = z) (k : Wp p e below P T (mkF m pc' L (.int z :: S))) : Wp p e below P T (mkF m pc L (.int y :: .int x :: S)) := by
  subst hp hz; exact k.go fun _ q => XS.ior A.1.here A.2.2.2.2.1 rfl (hb A.2.2.2.2.2.1 hd) rfl q
theorem f_ixor (A : WS p l e R s m args below meth c Z EL n0 own code ml bw vm T h locs cells slots) {x y : Int32} (hd : decode code pc = .ok (.ixor, 1)) (hp : pc + 1 = pc') (z : Int32) (hz : x ^^^ y = z) (k : Wp p e below P T (mkF m pc' L (.int z :: S))) : Wp p e below P T (mkF m pc L (.int y :: .int x :: S)) := by
  subst hp hz; exact k.go fun _ q => XS.ixor A.1.here A.2.2.2.2.1 rfl (hb A.2.2.2.2.2.1 hd) rfl q
theorem f_ishl (A : WS p l e R s m args below meth c Z EL n0 own code ml bw vm T h locs cells slots) {x y : Int32} (hd : decode code pc = .ok (.ishl, 1)) (hp : pc + 1 = pc') (z : Int32) (hz : x <<< (y &&& 31) = z) (k : Wp p e below P T (mkF m pc' L (.int z :: S))) : Wp p e below P T (mkF m pc L (.int y :: .int x :: S)) := by
  subst hp hz; exact k.go fun _ q => XS.ishl A.1.here A.2.2.2.2.1 rfl (hb A.2.2.2.2.2.1 hd) rfl q
theorem f_ishr (A : WS p l e R s m args below meth c Z EL n0 own code ml bw vm T h locs cells slots) {x y : Int32} (hd : decode code pc = .ok (.ishr, 1)) (hp : pc + 1 = pc') (z : Int32) (hz : x >>> (y &&& 31) = z) (k : Wp p e below P T (mkF m pc' L (.int z :: S))) : Wp p e below P T (mkF m pc L (.int y :: .int x :: S)) := by
  subst hp hz; exact k.go fun _ q => XS.ishr A.1.here A.2.2.2.2.1 rfl (hb A.2.2.2.2.2.1 hd) rfl q
theorem f_iushr (A : WS p l e R s m args below meth c Z EL n0 own code ml bw vm T h locs cells slots) {x y : Int32} (hd : decode code pc = .ok (.iushr, 1)) (hp : pc + 1 = pc') (z : Int32) (hz : (x.toUInt32 >>> (y &&& 31).toUInt32).toInt32 = z) (k : Wp p e below P T (mkF m pc' L (.int z :: S))) : Wp p e below P T (mkF m pc L (.int y :: .int x :: S)) := by
  subst hp hz; exact k.go fun _ q => XS.iushr A.1.here A.2.2.2.2.1 rfl (hb A.2.2.2.2.2.1 hd) rfl q
theorem f_ladd (A : WS p l e R s m args below meth c Z EL n0 own code ml bw vm T h locs cells slots) {x y : Int64} (hd : decode code pc = .ok (.ladd, 1)) (hp : pc + 1 = pc') (z : Int64) (hz : x + y = z) (k : Wp p e below P T (mkF m pc' L (.long z :: S))) : Wp p e below P T (mkF m pc L (.long y :: .long x :: S)) := by
  subst hp hz; exact k.go fun _ q => XS.ladd A.1.here A.2.2.2.2.1 rfl (hb A.2.2.2.2.2.1 hd) rfl q
theorem f_lsub (A : WS p l e R s m args below meth c Z EL n0 own code ml bw vm T h locs cells slots) {x y : Int64} (hd : decode code pc = .ok (.lsub, 1)) (hp : pc + 1 = pc') (z : Int64) (hz : x - y = z) (k : Wp p e below P T (mkF m pc' L (.long z :: S))) : Wp p e below P T (mkF m pc L (.long y :: .long x :: S)) := by
  subst hp hz; exact k.go fun _ q => XS.lsub A.1.here A.2.2.2.2.1 rfl (hb A.2.2.2.2.2.1 hd) rfl q
theorem f_lmul (A : WS p l e R s m args below meth c Z EL n0 own code ml bw vm T h locs cells slots) {x y : Int64} (hd : decode code pc = .ok (.lmul, 1)) (hp : pc + 1 = pc') (z : Int64) (hz : x * y = z) (k : Wp p e below P T (mkF m pc' L (.long z :: S))) : Wp p e below P T (mkF m pc L (.long y :: .long x :: S)) := by
  subst hp hz; exact k.go fun _ q => XS.lmul A.1.here A.2.2.2.2.1 rfl (hb A.2.2.2.2.2.1 hd) rfl q
theorem f_land (A : WS p l e R s m args below meth c Z EL n0 own code ml bw vm T h locs cells slots) {x y : Int64} (hd : decode code pc = .ok (.land, 1)) (hp : pc + 1 = pc') (z : Int64) (hz : x &&& y = z) (k : Wp p e below P T (mkF m pc' L (.long z :: S))) : Wp p e below P T (mkF m pc L (.long y :: .long x :: S)) := by
  subst hp hz; exact k.go fun _ q => XS.land A.1.here A.2.2.2.2.1 rfl (hb A.2.2.2.2.2.1 hd) rfl q
theorem f_lor (A : WS p l e R s m args below meth c Z EL n0 own code ml bw vm T h locs cells slots) {x y : Int64} (hd : decode code pc = .ok (.lor, 1)) (hp : pc + 1 = pc') (z : Int64) (hz : x ||| y = z) (k : Wp p e below P T (mkF m pc' L (.long z :: S))) : Wp p e below P T (mkF m pc L (.long y :: .long x :: S)) := by
  subst hp hz; exact k.go fun _ q => XS.lor A.1.here A.2.2.2.2.1 rfl (hb A.2.2.2.2.2.1 hd) rfl q
theorem f_lxor (A : WS p l e R s m args below meth c Z EL n0 own code ml bw vm T h locs cells slots) {x y : Int64} (hd : decode code pc = .ok (.lxor, 1)) (hp : pc + 1 = pc') (z : Int64) (hz : x ^^^ y = z) (k : Wp p e below P T (mkF m pc' L (.long z :: S))) : Wp p e below P T (mkF m pc L (.long y :: .long x :: S)) := by
  subst hp hz; exact k.go fun _ q => XS.lxor A.1.here A.2.2.2.2.1 rfl (hb A.2.2.2.2.2.1 hd) rfl q
theorem f_lshl (A : WS p l e R s m args below meth c Z EL n0 own code ml bw vm T h locs cells slots) {x : Int64} {y : Int32} (hd : decode code pc = .ok (.lshl, 1)) (hp : pc + 1 = pc') (z : Int64) (hz : x <<< (y &&& 63).toInt64 = z) (k : Wp p e below P T (mkF m pc' L (.long z :: S))) : Wp p e below P T (mkF m pc L (.int y :: .long x :: S)) := by
  subst hp hz; exact k.go fun _ q => XS.lshl A.1.here A.2.2.2.2.1 rfl (hb A.2.2.2.2.2.1 hd) rfl q
theorem f_lshr (A : WS p l e R s m args below meth c Z EL n0 own code ml bw vm T h locs cells slots) {x : Int64} {y : Int32} (hd : decode code pc = .ok (.lshr, 1)) (hp : pc + 1 = pc') (z : Int64) (hz : x >>> (y &&& 63).toInt64 = z) (k : Wp p e below P T (mkF m pc' L (.long z :: S))) : Wp p e below P T (mkF m pc L (.int y :: .long x :: S)) := by
  subst hp hz; exact k.go fun _ q => XS.lshr A.1.here A.2.2.2.2.1 rfl (hb A.2.2.2.2.2.1 hd) rfl q
theorem f_lushr (A : WS p l e R s m args below meth c Z EL n0 own code ml bw vm T h locs cells slots) {x : Int64} {y : Int32} (hd : decode code pc = .ok (.lushr, 1)) (hp : pc + 1 = pc') (z : Int64) (hz : (x.toUInt64 >>> (y &&& 0x3f).toInt64.toUInt64).toInt64 = z) (k : Wp p e below P T (mkF m pc' L (.long z :: S))) : Wp p e below P T (mkF m pc L (.int y :: .long x :: S)) := by
  subst hp hz; exact k.go fun _ q => XS.lushr A.1.here A.2.2.2.2.1 rfl (hb A.2.2.2.2.2.1 hd) rfl q
theorem f_idiv (A : WS p l e R s m args below meth c Z EL n0 own code ml bw vm T h locs cells slots) {x y : Int32} (hd : decode code pc = .ok (.idiv, 1)) (hp : pc + 1 = pc') (hy : y ≠ 0) (z : Int32) (hz : x / y = z) (k : Wp p e below P T (mkF m pc' L (.int z :: S))) : Wp p e below P T (mkF m pc L (.int y :: .int x :: S)) := by
  subst hp hz; exact k.go fun _ q => XS.idiv A.1.here A.2.2.2.2.1 rfl (hb A.2.2.2.2.2.1 hd) rfl hy q
theorem f_ldiv (A : WS p l e R s m args below meth c Z EL n0 own code ml bw vm T h locs cells slots) {x y : Int64} (hd : decode code pc = .ok (.ldiv, 1)) (hp : pc + 1 = pc') (hy : y ≠ 0) (z : Int64) (hz : x / y = z) (k : Wp p e below P T (mkF m pc' L (.long z :: S))) : Wp p e below P T (mkF m pc L (.long y :: .long x :: S)) := by
  subst hp hz; exact k.go fun _ q => XS.ldiv A.1.here A.2.2.2.2.1 rfl (hb A.2.2.2.2.2.1 hd) rfl hy q
theorem f_irem (A : WS p l e R s m args below meth c Z EL n0 own code ml bw vm T h locs cells slots) {x y : Int32} (hd : decode code pc = .ok (.irem, 1)) (hp : pc + 1 = pc') (hy : y ≠ 0) (z : Int32) (hz : x % y = z) (k : Wp p e below P T (mkF m pc' L (.int z :: S))) : Wp p e below P T (mkF m pc L (.int y :: .int x :: S)) := by
  subst hp hz; exact k.go fun _ q => iremM A.1 A.2.2.2.2.1 rfl (hb A.2.2.2.2.2.1 hd) rfl hy q
theorem f_lrem (A : WS p l e R s m args below meth c Z EL n0 own code ml bw vm T h locs cells slots) {x y : Int64} (hd : decode code pc = .ok (.lrem, 1)) (hp : pc + 1 = pc') (hy : y ≠ 0) (z : Int64) (hz : x % y = z) (k : Wp p e below P T (mkF m pc' L (.long z :: S))) : Wp p e below P T (mkF m pc L (.long y :: .long x :: S)) := by
  subst hp hz; exact k.go fun _ q => XS.lrem A.1.here A.2.2.2.2.1 rfl (hb A.2.2.2.2.2.1 hd) rfl hy (by rw [lrem_mod]; exact q)
theorem f_ineg (A : WS p l e R s m args below meth c Z EL n0 own code ml bw vm T h locs cells slots) {x : Int32} (hd : decode code pc = .ok (.ineg, 1)) (hp : pc + 1 = pc') (z : Int32) (hz : -x = z) (k : Wp p e below P T (mkF m pc' L (.int z :: S))) : Wp p e below P T (mkF m pc L (.int x :: S)) := by
  subst hp hz; exact k.go fun _ q => XS.ineg A.1.here A.2.2.2.2.1 rfl (hb A.2.2.2.2.2.1 hd) rfl q
theorem f_lneg (A : WS p l e R s m args below meth c Z EL n0 own code ml bw vm T h locs cells slots) {x : Int64} (hd : decode code pc = .ok (.lneg, 1)) (hp : pc + 1 = pc') (z : Int64) (hz : -x = z) (k : Wp p e below P T (mkF m pc' L (.long z :: S))) : Wp p e below P T (mkF m pc L (.long x :: S)) := by
  subst hp hz; exact k.go fun _ q => XS.lneg A.1.here A.2.2.2.2.1 rfl (hb A.2.2.2.2.2.1 hd) rfl q
theorem f_i2l (A : WS p l e R s m args below meth c Z EL n0 own code ml bw vm T h locs cells slots) {x : Int32} (hd : decode code pc = .ok (.i2l, 1)) (hp : pc + 1 = pc') (z : Int64) (hz : x.toInt64 = z) (k : Wp p e below P T (mkF m pc' L (.long z :: S))) : Wp p e below P T (mkF m pc L (.int x :: S)) := by
  subst hp hz; exact k.go fun _ q => XS.i2l A.1.here A.2.2.2.2.1 rfl (hb A.2.2.2.2.2.1 hd) rfl q
theorem f_l2i (A : WS p l e R s m args below meth c Z EL n0 own code ml bw vm T h locs cells slots) {x : Int64} (hd : decode code pc = .ok (.l2i, 1)) (hp : pc + 1 = pc') (z : Int32) (hz : x.toInt32 = z) (k : Wp p e below P T (mkF m pc' L (.int z :: S))) : Wp p e below P T (mkF m pc L (.long x :: S)) := by
  subst hp hz; exact k.go fun _ q => XS.l2i A.1.here A.2.2.2.2.1 rfl (hb A.2.2.2.2.2.1 hd) rfl q
theorem f_i2b (A : WS p l e R s m args below meth c Z EL n0 own code ml bw vm T h locs cells slots) {x : Int32} (hd : decode code pc = .ok (.i2b, 1)) (hp : pc + 1 = pc') (z : Int32) (hz : x.toInt8.toInt32 = z) (k : Wp p e below P T (mkF m pc' L (.int z :: S))) : Wp p e below P T (mkF m pc L (.int x :: S)) := by
  subst hp hz; exact k.go fun _ q => XS.i2b A.1.here A.2.2.2.2.1 rfl (hb A.2.2.2.2.2.1 hd) rfl q
theorem f_i2c (A : WS p l e R s m args below meth c Z EL n0 own code ml bw vm T h locs cells slots) {x : Int32} (hd : decode code pc = .ok (.i2c, 1)) (hp : pc + 1 = pc') (z : Int32) (hz : x.toUInt32.toUInt16.toUInt32.toInt32 = z) (k : Wp p e below P T (mkF m pc' L (.int z :: S))) : Wp p e below P T (mkF m pc L (.int x :: S)) := by
  subst hp hz; exact k.go fun _ q => XS.i2c A.1.here A.2.2.2.2.1 rfl (hb A.2.2.2.2.2.1 hd) rfl q
theorem f_i2s (A : WS p l e R s m args below meth c Z EL n0 own code ml bw vm T h locs cells slots) {x : Int32} (hd : decode code pc = .ok (.i2s, 1)) (hp : pc + 1 = pc') (z : Int32) (hz : x.toInt16.toInt32 = z) (k : Wp p e below P T (mkF m pc' L (.int z :: S))) : Wp p e below P T (mkF m pc L (.int x :: S)) := by
  subst hp hz; exact k.go fun _ q => XS.i2s A.1.here A.2.2.2.2.1 rfl (hb A.2.2.2.2.2.1 hd) rfl q
theorem f_lcmp (A : WS p l e R s m args below meth c Z EL n0 own code ml bw vm T h locs cells slots) {x y : Int64} (hd : decode code pc = .ok (.lcmp, 1)) (hp : pc + 1 = pc') (z : Int32) (hz : lcmpW x y = z) (k : Wp p e below P T (mkF m pc' L (.int z :: S))) : Wp p e below P T (mkF m pc L (.long y :: .long x :: S)) := by
  subst hp hz; exact k.go fun _ q => XS.lcmp A.1.here A.2.2.2.2.1 rfl (hb A.2.2.2.2.2.1 hd) rfl q
theorem f_iinc (A : WS p l e R s m args below meth c Z EL n0 own code ml bw vm T h locs cells slots) {i : Nat} {d : Int} {x : Int32} {L' : Array Slot} (hd : decode code pc = .ok (.iinc i d, 3)) (hp : pc + 3 = pc') (hl : L[i]? = some (.val (.int x))) (z : Int32) (hz : x + Int32.ofInt d = z) (hs : storeLocals L i (.int z) = some L') (k : Wp p e below P T (mkF m pc' L' S)) : Wp p e below P T (mkF m pc L S) := by
  subst hp hz; exact k.go fun _ q => XS.iinc A.1.here A.2.2.2.2.1 rfl (hb A.2.2.2.2.2.1 hd) hl hs q
theorem f_dup (A : WS p l e R s m args below meth c Z EL n0 own code ml bw vm T h locs cells slots) {x : Value} (hd : decode code pc = .ok (.dup, 1)) (hp : pc + 1 = pc') (hc : x.category = 1) (k : Wp p e below P T (mkF m pc' L (x :: x :: S))) : Wp p e below P T (mkF m pc L (x :: S)) := by
  subst hp; exact k.go fun _ q => XS.dup A.1.here A.2.2.2.2.1 rfl (hb A.2.2.2.2.2.1 hd) rfl hc q
theorem f_pop (A : WS p l e R s m args below meth c Z EL n0 own code ml bw vm T h locs cells slots) {x : Value} (hd : decode code pc = .ok (.pop, 1)) (hp : pc + 1 = pc') (hc : x.category = 1) (k : Wp p e below P T (mkF m pc' L S)) : Wp p e below P T (mkF m pc L (x :: S)) := by
  subst hp; exact k.go fun _ q => XS.pop A.1.here A.2.2.2.2.1 rfl (hb A.2.2.2.2.2.1 hd) rfl hc q
theorem f_dup_x1 (A : WS p l e R s m args below meth c Z EL n0 own code ml bw vm T h locs cells slots) {x y : Value} (hd : decode code pc = .ok (.dup_x1, 1)) (hp : pc + 1 = pc') (hc : x.category = 1) (hc' : y.category = 1) (k : Wp p e below P T (mkF m pc' L (x :: y :: x :: S))) : Wp p e below P T (mkF m pc L (x :: y :: S)) := by
  subst hp; exact k.go fun _ q => XS.dupX1 A.1.here A.2.2.2.2.1 rfl (hb A.2.2.2.2.2.1 hd) rfl hc hc' q
theorem f_goto (A : WS p l e R s m args below meth c Z EL n0 own code ml bw vm T h locs cells slots) {o : Int} (hd : decode code pc = .ok (.goto o, 3)) (ho : 0 ≤ (pc : Int) + o) (hp : ((pc : Int) + o).toNat = pc') (k : Wp p e below P T (mkF m pc' L S)) : Wp p e below P T (mkF m pc L S) := by
  exact k.go fun _ q => XS.goto A.1.here A.2.2.2.2.1 rfl (pc0 := pc) rfl (hb A.2.2.2.2.2.1 hd) ho hp q
theorem f_ifY (A : WS p l e R s m args below meth c Z EL n0 own code ml bw vm T h locs cells slots) {cd : ClassFile.Cond} {o : Int} {x : Int32} (hd : decode code pc = .ok (.ifCond cd o, 3)) (hc : ifCond.holds cd x = true) (ho : 0 ≤ (pc : Int) + o) (hp : ((pc : Int) + o).toNat = pc') (k : Wp p e below P T (mkF m pc' L S)) : Wp p e below P T (mkF m pc L (.int x :: S)) := by
  exact k.go fun _ q => XS.ifYes A.1.here A.2.2.2.2.1 rfl (pc0 := pc) rfl (hb A.2.2.2.2.2.1 hd) rfl hc ho hp q
theorem f_ifN (A : WS p l e R s m args below meth c Z EL n0 own code ml bw vm T h locs cells slots) {cd : ClassFile.Cond} {o : Int} {x : Int32} (hd : decode code pc = .ok (.ifCond cd o, 3)) (hc : ifCond.holds cd x = false) (hp : pc + 3 = pc') (k : Wp p e below P T (mkF m pc' L S)) : Wp p e below P T (mkF m pc L (.int x :: S)) := by
  subst hp; exact k.go fun _ q => XS.ifNo A.1.here A.2.2.2.2.1 rfl (hb A.2.2.2.2.2.1 hd) rfl hc q
theorem f_icY (A : WS p l e R s m args below meth c Z EL n0 own code ml bw vm T h locs cells slots) {cd : ClassFile.Cond} {o : Int} {x y : Int32} (hd : decode code pc = .ok (.if_icmp cd o, 3)) (hc : if_icmp.holds cd x y = true) (ho : 0 ≤ (pc : Int) + o) (hp : ((pc : Int) + o).toNat = pc') (k : Wp p e below P T (mkF m pc' L S)) : Wp p e below P T (mkF m pc L (.int y :: .int x :: S)) := by
  exact k.go fun _ q => XS.icmpYes A.1.here A.2.2.2.2.1 rfl (pc0 := pc) rfl (hb A.2.2.2.2.2.1 hd) rfl hc ho hp q
theorem f_icN (A : WS p l e R s m args below meth c Z EL n0 own code ml bw vm T h locs cells slots) {cd : ClassFile.Cond} {o : Int} {x y : Int32} (hd : decode code pc = .ok (.if_icmp cd o, 3)) (hc : if_icmp.holds cd x y = false) (hp : pc + 3 = pc') (k : Wp p e below P T (mkF m pc' L S)) : Wp p e below P T (mkF m pc L (.int y :: .int x :: S)) := by
  subst hp; exact k.go fun _ q => XS.icmpNo A.1.here A.2.2.2.2.1 rfl (hb A.2.2.2.2.2.1 hd) rfl hc q
theorem f_nullY (A : WS p l e R s m args below meth c Z EL n0 own code ml bw vm T h locs cells slots) {o : Int} (hd : decode code pc = .ok (.ifnull o, 3)) (ho : 0 ≤ (pc : Int) + o) (hp : ((pc : Int) + o).toNat = pc') (k : Wp p e below P T (mkF m pc' L S)) : Wp p e below P T (mkF m pc L (.null :: S)) := by
  exact k.go fun _ q => XS.ifnullYes A.1.here A.2.2.2.2.1 rfl (pc0 := pc) rfl (hb A.2.2.2.2.2.1 hd) rfl ho hp q
theorem f_nullN (A : WS p l e R s m args below meth c Z EL n0 own code ml bw vm T h locs cells slots) {o : Int} {b : Addr} (hd : decode code pc = .ok (.ifnull o, 3)) (hp : pc + 3 = pc') (k : Wp p e below P T (mkF m pc' L S)) : Wp p e below P T (mkF m pc L (.ref b :: S)) := by
  subst hp; exact k.go fun _ q => XS.ifnullNo A.1.here A.2.2.2.2.1 rfl (hb A.2.2.2.2.2.1 hd) rfl q
theorem f_nonY (A : WS p l e R s m args below meth c Z EL n0 own code ml bw vm T h locs cells slots) {o : Int} {b : Addr} (hd : decode code pc = .ok (.ifnonnull o, 3)) (ho : 0 ≤ (pc : Int) + o) (hp : ((pc : Int) + o).toNat = pc') (k : Wp p e below P T (mkF m pc' L S)) : Wp p e below P T (mkF m pc L (.ref b :: S)) := by
  exact k.go fun _ q => XS.ifnonnullYes A.1.here A.2.2.2.2.1 rfl (pc0 := pc) rfl (hb A.2.2.2.2.2.1 hd) rfl ho hp q
theorem f_nonN (A : WS p l e R s m args below meth c Z EL n0 own code ml bw vm T h locs cells slots) {o : Int} (hd : decode code pc = .ok (.ifnonnull o, 3)) (hp : pc + 3 = pc') (k : Wp p e below P T (mkF m pc' L S)) : Wp p e below P T (mkF m pc L (.null :: S)) := by
  subst hp; exact k.go fun _ q => XS.ifnonnullNo A.1.here A.2.2.2.2.1 rfl (hb A.2.2.2.2.2.1 hd) rfl q
theorem f_acmp (A : WS p l e R s m args below meth c Z EL n0 own code ml bw vm T h locs cells slots) {cd : ACond} {o : Int} {x y : Value} (h1 : x.isRef = true) (h2 : y.isRef = true) (hd : decode code pc = .ok (.if_acmp cd o, 3)) (same : Bool) (hq : decide (x = y) = same) (ho : 0 ≤ (pc : Int) + o) (hp : pc' = if acV cd same = true then ((pc : Int) + o).toNat else pc + 3) (k : Wp p e below P T (mkF m pc' L S)) : Wp p e below P T (mkF m pc L (y :: x :: S)) := by
  exact k.go fun _ q => Jvm.RoadKit.acmp A.1 A.2.2.2.2.1 rfl h1 h2 (pc0 := pc) rfl (hb A.2.2.2.2.2.1 hd) rfl hq ho hp q
theorem f_new (A : WS p l e R s m args below meth c Z EL n0 own code ml bw vm T h locs cells slots) {C : String} {i n : Nat} (hd : decode code pc = .ok (.new i, 3)) (hp : pc + 3 = pc') (w : (Cond.classLink own i C).before a0 Z = true) (wi : (Cond.instantiable C n).before a0 Z = true) (wz : (Cond.initialized C).before a0 Z = true) (hc : cells + 1 ≤ R.cells) (hl : slots + n ≤ R.slots)
    (k : ∀ (a : Addr) (T' : State) (h' : Heap), a = h.size → WS p l e R s m args below meth c Z EL n0 own code ml bw vm T' h' locs (cells + 1) (slots + n) → Ext h h' → Exa Z h' a C → (∀ {O nm d : String} {ty : FieldType}, Laid Z a0 C O nm d → parseFieldDescriptor d = some ty → Fld Z h' a O nm d (defaultValue ty)) → Wp p e below P T' (mkF m pc' L (.ref a :: S))) : Wp p e below P T (mkF m pc L S) := by
  subst hp
  obtain ⟨T', h', X', q, E, F, D, -, st⟩ := newO A.1 A.2.2.2.2.1 A.hZ A.2.2.2.1 w wi wz A.2.1 (g := mkF m pc L S) rfl (hb A.2.2.2.2.2.1 hd) hc hl
  exact (k _ T' h' rfl (A.grow X' q E) E F D).go st
theorem f_newP (A : WS p l e R s m args below meth c Z EL n0 own code ml bw vm T h locs cells slots) {aty : ArrayType} {z : Int32} (cap : Nat) (hd : decode code pc = .ok (.newarray aty, 2)) (hp : pc + 2 = pc') (w : (Cond.arrayClass (newarray.typeOf aty)).before a0 Z = true) (hn : ¬ z < 0) (hcap : z.toNatClampNeg ≤ cap) (hb8 : cap * 8 ≤ 536870912) (hc : cells + 1 ≤ R.cells) (hl : slots + cap ≤ R.slots) {ad : String} (had : "[" ++ (newarray.typeOf aty).toString = ad)
    (k : ∀ (a : Addr) (T' : State) (h' : Heap) (kA : ClassId), a = h.size → WS p l e R s m args below meth c Z EL n0 own code ml bw vm T' h' locs (cells + 1) (slots + cap) → Ext h h' → Arv Z h' a kA (newarray.typeOf aty) z [] (defaultValue (newarray.typeOf aty)) → Exa Z h' a ad → Wp p e below P T' (mkF m pc' L (.ref a :: S))) : Wp p e below P T (mkF m pc L (.int z :: S)) := by
  subst hp
  obtain ⟨T', h', kA, X', q, E, F, G, st⟩ := newPE A.1 A.2.2.2.2.1 A.hZ w A.2.1 (g := mkF m pc L (.int z :: S)) rfl (hb A.2.2.2.2.2.1 hd) rfl hn hcap hb8 hc hl had
  exact (k _ T' h' kA rfl (A.grow X' q E) E (Arv.new F hn) G).go st
theorem f_getF (A : WS p l e R s m args below meth c Z EL n0 own code ml bw vm T h locs cells slots) {R0 O n d host : String} {i : Nat} {a : Addr} {v : Value} (hd : decode code pc = .ok (.getfield i, 3)) (hp : pc + 3 = pc') (w : (Cond.fieldLink own i R0 n d).before a0 Z = true ∨ (Cond.fieldLinkNest own i R0 n d host).before a0 Z = true) (via : Via Z R0 O n d) (F : Fld Z h a O n d v)
    (k : ∀ (T' : State), WS p l e R s m args below meth c Z EL n0 own code ml bw vm T' h locs cells slots → Wp p e below P T' (mkF m pc' L (v :: S))) : Wp p e below P T (mkF m pc L (.ref a :: S)) := by
  subst hp
  obtain ⟨T', X', q, st⟩ := getF A.1 A.2.2.2.2.1 A.hZ A.2.2.2.1 w via A.2.1 F (g := mkF m pc L (.ref a :: S)) rfl rfl (hb A.2.2.2.2.2.1 hd)
  exact (k T' (A.still X' q)).go st
theorem f_getS (A : WS p l e R s m args below meth c Z EL n0 own code ml bw vm T h locs cells slots) {R0 O n d host : String} {i : Nat} {v : Value} (hd : decode code pc = .ok (.getstatic i, 3)) (hp : pc + 3 = pc') (w : (Cond.fieldLink own i R0 n d).before a0 Z = true ∨ (Cond.fieldLinkNest own i R0 n d host).before a0 Z = true) (via : Via Z R0 O n d) (F : Sta Z Z.heap O n d v)
    (k : ∀ (T' : State), WS p l e R s m args below meth c Z EL n0 own code ml bw vm T' h locs cells slots → Wp p e below P T' (mkF m pc' L (v :: S))) : Wp p e below P T (mkF m pc L S) := by
  subst hp
  obtain ⟨T', X', q, st⟩ := getS2 A.1 A.2.2.2.2.1 A.hZ A.2.2.2.1 w via A.2.1 (F.ext A.old.2) (g := mkF m pc L S) rfl (hb A.2.2.2.2.2.1 hd)
  exact (k T' (A.still X' q)).go st
theorem f_putF (A : WS p l e R s m args below meth c Z EL n0 own code ml bw vm T h locs cells slots) {R0 O n d C : String} {i kk : Nat} {ty : FieldType} {a : Addr} {v old : Value} (v' : Value) (hd : decode code pc = .ok (.putfield i, 3)) (hp : pc + 3 = pc') (w : (Cond.fieldLink own i R0 n d).before a0 Z = true) (via : Via Z R0 O n d) (F : Fld Z h a O n d old) (E : Exa Z h a C)
    (wl : (Cond.lays C O n d).before a0 Z = true ∨ ((Cond.laysFinal C O n d).before a0 Z = true ∧ own = O ∧ meth.name = "<init>")) (wi : (Cond.instantiable C kk).before a0 Z = true) (hty : parseFieldDescriptor d = some ty) (hn : narrow ty v = v') (hf : fits ty v' = true) (ga : n0 ≤ a) (sf : bw = true → Safe Z EL vm h a)
    (k : ∀ (T' : State) (h' : Heap), WS p l e R s m args below meth c Z EL n0 own code ml bw vm T' h' (locs ++ [⟨a, Jvm.RoadKit.slotOf Z O n d⟩]) cells slots → Wr h h' a (Jvm.RoadKit.slotOf Z O n d) v' → Keep h h' [a] → Exa Z h' a C → Fld Z h' a O n d v' → Wp p e below P T' (mkF m pc' L S)) : Wp p e below P T (mkF m pc L (v :: .ref a :: S)) := by
  subst hp
  obtain ⟨T', h', X', q, W, st⟩ := putFN A.1 A.2.2.2.2.1 A.hZ A.2.2.2.1 w via A.2.1 F E wl wi hty hn hf (g := mkF m pc L (v :: .ref a :: S)) rfl rfl (hb A.2.2.2.2.2.1 hd)
  exact (k T' h' (A.kept X' q (Fr.snoc X' A.2.2.2.2.2.2.2.1 ga) (Keep.of_wr W) (allS ga all0) (fun b => sfS (sf b) sf0)) W (Keep.of_wr W) (E.wr W) (F.same W)).go st
theorem f_castore (A : WS p l e R s m args below meth c Z EL n0 own code ml bw vm T h locs cells slots) {a : Addr} {kA : ClassId} {z j x : Int32} {vs vs' : List Value} {dv : Value} (hd : decode code pc = .ok (.castore, 1)) (hp : pc + 1 = pc') (F : Arv Z h a kA .char z vs dv) (hj : ¬ j < 0 ∧ j < z) (i : Nat) (hi : j.toNatClampNeg = i) (hl : i < vs.length) (v : Int32) (hv : nar .char x = v) (hs : vs.set i (.int v) = vs') (ga : n0 ≤ a) (sf : bw = true → Safe Z EL vm h a)
    (k : ∀ (T' : State) (h' : Heap), WS p l e R s m args below meth c Z EL n0 own code ml bw vm T' h' (locs ++ [⟨a, j.toNatClampNeg⟩]) cells slots → Keep h h' [a] → Arv Z h' a kA .char z vs' dv → Wp p e below P T' (mkF m pc' L S)) : Wp p e below P T (mkF m pc L (.int x :: .int j :: .ref a :: S)) := by
  subst hp hs hv
  obtain ⟨cl, Ar, q1, Sz, q3, H, G⟩ := F
  obtain ⟨T', h', X', q, W, st⟩ := stC A.1 A.2.2.2.2.1 A.hZ A.2.1 Ar (j := j) (inb_of Sz hj) (g := mkF m pc L (.int x :: .int j :: .ref a :: S)) rfl rfl (hb A.2.2.2.2.2.1 hd)
  exact (k T' h' (A.kept X' q (Fr.snoc X' A.2.2.2.2.2.2.2.1 ga) (Keep.of_wr W) (allS ga all0) (fun b => sfS (sf b) sf0)) (Keep.of_wr W) (Arv.set Ar q1 Sz q3 H G (fits_nar_char x) W i hi hl)).go st
theorem f_bastore (A : WS p l e R s m args below meth c Z EL n0 own code ml bw vm T h locs cells slots) {a : Addr} {kA : ClassId} {z j x : Int32} {vs vs' : List Value} {dv : Value} (hd : decode code pc = .ok (.bastore, 1)) (hp : pc + 1 = pc') (F : Arv Z h a kA .byte z vs dv) (hj : ¬ j < 0 ∧ j < z) (i : Nat) (hi : j.toNatClampNeg = i) (hl : i < vs.length) (v : Int32) (hv : x.toInt8.toInt32 = v) (hs : vs.set i (.int v) = vs') (ga : n0 ≤ a) (sf : bw = true → Safe Z EL vm h a)
    (k : ∀ (T' : State) (h' : Heap), WS p l e R s m args below meth c Z EL n0 own code ml bw vm T' h' (locs ++ [⟨a, j.toNatClampNeg⟩]) cells slots → Keep h h' [a] → Arv Z h' a kA .byte z vs' dv → Wp p e below P T' (mkF m pc' L S)) : Wp p e below P T (mkF m pc L (.int x :: .int j :: .ref a :: S)) := by
  subst hp hs hv
  obtain ⟨cl, Ar, q1, Sz, q3, H, G⟩ := F
  obtain ⟨T', h', X', q, W, st⟩ := stB A.1 A.2.2.2.2.1 A.hZ A.2.1 Ar (j := j) (inb_of Sz hj) (g := mkF m pc L (.int x :: .int j :: .ref a :: S)) rfl rfl (hb A.2.2.2.2.2.1 hd)
  exact (k T' h' (A.kept X' q (Fr.snoc X' A.2.2.2.2.2.2.2.1 ga) (Keep.of_wr W) (allS ga all0) (fun b => sfS (sf b) sf0)) (Keep.of_wr W) (Arv.set Ar q1 Sz q3 H G (fits_nar_byte x) W i hi hl)).go st
theorem f_iastore (A : WS p l e R s m args below meth c Z EL n0 own code ml bw vm T h locs cells slots) {a : Addr} {kA : ClassId} {z j x : Int32} {vs vs' : List Value} {dv : Value} (hd : decode code pc = .ok (.iastore, 1)) (hp : pc + 1 = pc') (F : Arv Z h a kA .int z vs dv) (hj : ¬ j < 0 ∧ j < z) (i : Nat) (hi : j.toNatClampNeg = i) (hl : i < vs.length) (v : Int32) (hv : x = v) (hs : vs.set i (.int v) = vs') (ga : n0 ≤ a) (sf : bw = true → Safe Z EL vm h a)
    (k : ∀ (T' : State) (h' : Heap), WS p l e R s m args below meth c Z EL n0 own code ml bw vm T' h' (locs ++ [⟨a, j.toNatClampNeg⟩]) cells slots → Keep h h' [a] → Arv Z h' a kA .int z vs' dv → Wp p e below P T' (mkF m pc' L S)) : Wp p e below P T (mkF m pc L (.int x :: .int j :: .ref a :: S)) := by
  subst hp hs hv
  obtain ⟨cl, Ar, q1, Sz, q3, H, G⟩ := F
  obtain ⟨T', h', X', q, W, st⟩ := stI A.1 A.2.2.2.2.1 A.hZ A.2.1 Ar (j := j) (inb_of Sz hj) (g := mkF m pc L (.int x :: .int j :: .ref a :: S)) rfl rfl (hb A.2.2.2.2.2.1 hd)
  exact (k T' h' (A.kept X' q (Fr.snoc X' A.2.2.2.2.2.2.2.1 ga) (Keep.of_wr W) (allS ga all0) (fun b => sfS (sf b) sf0)) (Keep.of_wr W) (Arv.set Ar q1 Sz q3 H G rfl W i hi hl)).go st
theorem f_caload (A : WS p l e R s m args below meth c Z EL n0 own code ml bw vm T h locs cells slots) {a : Addr} {kA : ClassId} {z j : Int32} {vs : List Value} {dv v : Value} (hd : decode code pc = .ok (.caload, 1)) (hp : pc + 1 = pc') (F : Arv Z h a kA .char z vs dv) (hj : ¬ j < 0 ∧ j < z) (hv : vs.getD j.toNatClampNeg dv = v) (k : Wp p e below P T (mkF m pc' L (v :: S))) : Wp p e below P T (mkF m pc L (.int j :: .ref a :: S)) := by
  subst hp
  obtain ⟨cl, Ar, q1, Sz, q3, H, G⟩ := F
  exact k.go fun t q => A.1.caload A.2.2.2.2.1 (j := j) (v := v) (by rw [A.2.1]; exact Ar.1) (State.isArrayOf_alike A.hZ.alike Ar.2.1) Ar.2.2 (inb_of Sz hj) (H.at (inb_of Sz hj) hv) (g := mkF m pc L (.int j :: .ref a :: S)) rfl rfl (hb A.2.2.2.2.2.1 hd) t q
theorem f_baload (A : WS p l e R s m args below meth c Z EL n0 own code ml bw vm T h locs cells slots) {a : Addr} {kA : ClassId} {z j : Int32} {vs : List Value} {dv v : Value} (hd : decode code pc = .ok (.baload, 1)) (hp : pc + 1 = pc') (F : Arv Z h a kA .byte z vs dv) (hj : ¬ j < 0 ∧ j < z) (hv : vs.getD j.toNatClampNeg dv = v) (k : Wp p e below P T (mkF m pc' L (v :: S))) : Wp p e below P T (mkF m pc L (.int j :: .ref a :: S)) := by
  subst hp
  obtain ⟨cl, Ar, q1, Sz, q3, H, G⟩ := F
  exact k.go fun t q => A.1.baloadBytes A.2.2.2.2.1 (j := j) (v := v) (by rw [A.2.1]; exact Ar.1) (State.isArrayOf_alike A.hZ.alike Ar.2.1) Ar.2.2 (inb_of Sz hj) (H.at (inb_of Sz hj) hv) (g := mkF m pc L (.int j :: .ref a :: S)) rfl rfl (hb A.2.2.2.2.2.1 hd) t q
theorem f_iaload (A : WS p l e R s m args below meth c Z EL n0 own code ml bw vm T h locs cells slots) {a : Addr} {kA : ClassId} {z j : Int32} {vs : List Value} {dv v : Value} (hd : decode code pc = .ok (.iaload, 1)) (hp : pc + 1 = pc') (F : Arv Z h a kA .int z vs dv) (hj : ¬ j < 0 ∧ j < z) (hv : vs.getD j.toNatClampNeg dv = v) (k : Wp p e below P T (mkF m pc' L (v :: S))) : Wp p e below P T (mkF m pc L (.int j :: .ref a :: S)) := by
  subst hp
  obtain ⟨cl, Ar, q1, Sz, q3, H, G⟩ := F
  exact k.go fun t q => A.1.iaload A.2.2.2.2.1 (j := j) (v := v) (by rw [A.2.1]; exact Ar.1) (State.isArrayOf_alike A.hZ.alike Ar.2.1) Ar.2.2 (inb_of Sz hj) (H.at (inb_of Sz hj) hv) (g := mkF m pc L (.int j :: .ref a :: S)) rfl rfl (hb A.2.2.2.2.2.1 hd) t q
theorem f_aaload (A : WS p l e R s m args below meth c Z EL n0 own code ml bw vm T h locs cells slots) {a : Addr} {kA : ClassId} {z j : Int32} {vs : List Value} {dv v : Value} {ty : FieldType} (hd : decode code pc = .ok (.aaload, 1)) (hp : pc + 1 = pc') (F : Arv Z h a kA ty z vs dv) (ht : ty.isReference = true) (hj : ¬ j < 0 ∧ j < z) (hv : vs.getD j.toNatClampNeg dv = v) (k : Wp p e below P T (mkF m pc' L (v :: S))) : Wp p e below P T (mkF m pc L (.int j :: .ref a :: S)) := by
  subst hp
  obtain ⟨cl, Ar, q1, Sz, q3, H, G⟩ := F
  exact k.go fun t q => A.1.aaload A.2.2.2.2.1 (j := j) (v := v) (by rw [A.2.1]; exact Ar.1) (State.isArrayOf_alike A.hZ.alike Ar.2.1) ht Ar.2.2 (inb_of Sz hj) (H.at (inb_of Sz hj) hv) (g := mkF m pc L (.int j :: .ref a :: S)) rfl rfl (hb A.2.2.2.2.2.1 hd) t q
theorem f_arraylength (A : WS p l e R s m args below meth c Z EL n0 own code ml bw vm T h locs cells slots) {a : Addr} {kA : ClassId} {z : Int32} {vs : List Value} {dv : Value} {ty : FieldType} (hd : decode code pc = .ok (.arraylength, 1)) (hp : pc + 1 = pc') (F : Arv Z h a kA ty z vs dv) (k : Wp p e below P T (mkF m pc' L (.int z :: S))) : Wp p e below P T (mkF m pc L (.ref a :: S)) := by
  subst hp
  obtain ⟨cl, Ar, q1, Sz, q3, -, -⟩ := F
  exact k.go fun t q => A.1.arraylength A.2.2.2.2.1 (by rw [A.2.1]; exact Ar.1) (State.isArrayOf_alike A.hZ.alike Ar.2.1) (g := mkF m pc L (.ref a :: S)) rfl rfl (hb A.2.2.2.2.2.1 hd) t (by rw [len_of Sz q3]; exact q)
theorem f_cast (A : WS p l e R s m args below meth c Z EL n0 own code ml bw vm T h locs cells slots) {K : String} {i : Nat} {a : Addr} (hd : decode code pc = .ok (.checkcast i, 3)) (hp : pc + 3 = pc') (w : (Cond.classLink own i K).before a0 Z = true) (F : Ins Z h a K true) (k : ∀ (T' : State), WS p l e R s m args below meth c Z EL n0 own code ml bw vm T' h locs cells slots → Wp p e below P T' (mkF m pc' L (.ref a :: S))) : Wp p e below P T (mkF m pc L (.ref a :: S)) := by
  subst hp
  obtain ⟨T', X', q, st⟩ := castY A.1 A.2.2.2.2.1 A.hZ A.2.2.2.1 w A.2.1 F (g := mkF m pc L (.ref a :: S)) rfl rfl (hb A.2.2.2.2.2.1 hd)
  exact (k T' (A.still X' q)).go st
theorem f_instY (A : WS p l e R s m args below meth c Z EL n0 own code ml bw vm T h locs cells slots) {K : String} {i : Nat} {a : Addr} (hd : decode code pc = .ok (.instanceof i, 3)) (hp : pc + 3 = pc') (w : (Cond.classLink own i K).before a0 Z = true) (F : Ins Z h a K true) (k : ∀ (T' : State), WS p l e R s m args below meth c Z EL n0 own code ml bw vm T' h locs cells slots → Wp p e below P T' (mkF m pc' L (.int 1 :: S))) : Wp p e below P T (mkF m pc L (.ref a :: S)) := by
  subst hp
  obtain ⟨T', X', q, st⟩ := instY A.1 A.2.2.2.2.1 A.hZ A.2.2.2.1 w A.2.1 F (g := mkF m pc L (.ref a :: S)) rfl rfl (hb A.2.2.2.2.2.1 hd)
  exact (k T' (A.still X' q)).go st
theorem f_initO (A : WS p l e R s m args below meth c Z EL n0 own code ml bw vm T h locs cells slots) {i W : Nat} {a : Addr} (hd : decode code pc = .ok (.invokespecial i, 3)) (hp : pc + 3 = pc') (w1 : (Cond.methodLink own i Lib.objectInit).before a0 Z = true) (w2 : (Cond.instanceMethod Lib.objectInit).before a0 Z = true) (w3 : (Cond.code Lib.objectInit ⟨#[0xb1]⟩ 1 none).before a0 Z = true) (hml : L.size = ml) (hf : 1 ≤ R.frames) (hW : (S.map fun v => v.category).sum ≤ W) (hl : W + 12 ≤ R.locals)
    (k : ∀ (T' : State), WS p l e R s m args below meth c Z EL n0 own code ml bw vm T' h locs cells slots → Wp p e below P T' (mkF m pc' L S)) : Wp p e below P T (mkF m pc L (.ref a :: S)) := by
  subst hp
  obtain ⟨T', X', q, st⟩ := initO A.1 A.2.2.2.2.1 A.hZ A.2.2.2.1 w1 w2 w3 A.2.1 (g := mkF m pc L (.ref a :: S)) rfl (hml.trans A.2.2.2.2.2.2.1.symm) rfl (hb A.2.2.2.2.2.1 hd) hf (W := W) (by show 2 * 0 + _ ≤ _; omega) hl
  exact (k T' (A.still X' q)).go st
theorem WS.wide (A : WS p l e R s m args below meth c Z EL n0 own code ml true vm T h locs cells slots) : (∃ k, s.Since vm k ∧ k ≤ h.size) ∧ CHr Z EL s.vm s.heap vm h := by
  obtain ⟨-, -, -, -, -, -, -, -, -, b⟩ := A
  rcases b with ⟨b, -⟩ | ⟨-, b⟩
  · cases b
  · exact b
theorem f_ldcO (A : WS p l e R s m args below meth c Z EL n0 own code ml true vm T h locs cells slots) {i : Nat} {text : String} (hd : decode code pc = .ok (.ldc i, 2)) (hp : pc + 2 = pc') (w : (Cond.stringLink own i text).before a0 Z = true) (wS : ∀ a ∈ Bundle.stringAtoms, a.before a0 Z = true) (hEL : EW Z a0 EL) {n : Nat} (hn : 4 * text.toList.length ≤ n) (hbig : n ≤ 536870912) (hc : cells + 2 ≤ R.cells) (hl' : slots + (n + 4) ≤ R.slots)
    (k : ∀ (a : Addr) (vm' : Vm) (T' : State) (h' : Heap), WS p l e R s m args below meth c Z EL n0 own code ml true vm' T' h' locs (cells + 2) (slots + (n + 4)) → Ext h h' → CHr Z EL vm h vm' h' → Lit (s.setVm vm') own i a → Wp p e below P T' (mkF m pc' L (.ref a :: S))) : Wp p e below P T (mkF m pc L S) := by
  subst hp
  obtain ⟨⟨k0, hS, hk⟩, hC⟩ := A.wide
  obtain ⟨a, T', h', k1, X', q, E, hS', hk', hZ', ho', hC', hL, st⟩ := ldcOH A.1 A.2.2.2.2.1 A.hZ A.2.2.2.1 w wS A.2.1 hS hk hEL hC.1 (g := mkF m pc L S) rfl (hb A.2.2.2.2.2.1 hd) hn hbig hc hl'
  exact (k a T'.vm T' h' ⟨X', q, hZ', ho', A.2.2.2.2.1, A.2.2.2.2.2.1, A.2.2.2.2.2.2.1, A.2.2.2.2.2.2.2.1, A.old.ext E, Or.inr ⟨rfl, ⟨k1, hS', hk'⟩, hC.trans hC'⟩⟩ E hC' hL).go st
theorem f_ldcC (A : WS p l e R s m args below meth c Z EL n0 own code ml true vm T h locs cells slots) {i : Nat} {text : String} {vs : List Value} {z : Int32} (hd : decode code pc = .ok (.ldc i, 2)) (hp : pc + 2 = pc') (hmem : (own, i) ∈ EL) (ht : (∀ c ∈ text.toList, c.toNat < 256) ∧ text.toList.map (fun c => Value.int (Jvm.Lit.byteI c.toNat.toUInt16)) = vs) (hz : ¬ z < 0) (hl : z.toNatClampNeg = vs.length) (w : (Cond.stringLink own i text).before a0 Z = true) (wS : ∀ a ∈ Bundle.stringAtoms, a.before a0 Z = true) (hEL : EW Z a0 EL) {n : Nat} (hn : 4 * text.toList.length ≤ n) (hbig : n ≤ 536870912) (hc : cells + 2 ≤ R.cells) (hl' : slots + (n + 4) ≤ R.slots)
    (k : ∀ (a b : Addr) (kb : ClassId) (vm' : Vm) (T' : State) (h' : Heap), WS p l e R s m args below meth c Z EL n0 own code ml true vm' T' h' locs (cells + 2) (slots + (n + 4)) → Ext h h' → CHr Z EL vm h vm' h' → Lit (s.setVm vm') own i a → Exa Z h' a "java/lang/String" → Fld Z h' a "java/lang/String" "coder" "B" (.int 0) → Fld Z h' a "java/lang/String" "value" "[B" (.ref b) → Arv Z h' b kb .byte z vs (.int 0) → (∀ x, Safe Z EL vm' h' x → x ≠ a ∧ x ≠ b) → Wp p e below P T' (mkF m pc' L (.ref a :: S))) : Wp p e below P T (mkF m pc L S) := by
  subst hp
  obtain ⟨⟨k0, hS, hk⟩, hC⟩ := A.wide
  obtain ⟨a, T', h', k1, b, kb, X', q, E, hS', hk', hZ', ho', g1, g2, g3, g4, -, -, hC', hL, hsf, st⟩ := ldcCH A.1 A.2.2.2.2.1 A.hZ A.2.2.2.1 w wS A.2.1 hS hk hEL hmem hC.1 ht hz hl (g := mkF m pc L S) rfl (hb A.2.2.2.2.2.1 hd) hn hbig hc hl'
  exact (k a b kb T'.vm T' h' ⟨X', q, hZ', ho', A.2.2.2.2.1, A.2.2.2.2.2.1, A.2.2.2.2.2.2.1, A.2.2.2.2.2.2.2.1, A.old.ext E, Or.inr ⟨rfl, ⟨k1, hS', hk'⟩, hC.trans hC'⟩⟩ E hC' hL g1 g2 g3 g4 hsf).go st
theorem f_ldcA (A : WS p l e R s m args below meth c Z EL n0 own code ml true vm T h locs cells slots) {i : Nat} {text : String} {a : Addr} (hd : decode code pc = .ok (.ldc i, 2)) (hp : pc + 2 = pc') (w : (Cond.stringLink own i text).before a0 Z = true) (hL : Lit (s.setVm vm) own i a) (k : Wp p e below P T (mkF m pc' L (.ref a :: S))) : Wp p e below P T (mkF m pc L S) := by
  subst hp
  exact k.go fun t q => ldcAgain A.1 A.2.2.2.2.1 A.hZ A.2.2.2.1 w hL (g := mkF m pc L S) rfl (hb A.2.2.2.2.2.1 hd) t q
/-- what a body that interns nothing promises -/
abbrev CN (l : Launch) (y : MethodName) (bytes : ByteArray) (maxL : Nat) (ret : Option FieldType) (ws : List Jvm.Cond) (rm : Room) (Z : State) (n0 : Nat) (h : Heap) (as' : Array Value) (wr : List Addr) (Q : Option Value → Heap → Prop) : Prop :=
  MetFree l y (head1 (Jvm.Cond.code y bytes maxL ret :: ws) rm) (fun a U => a = as' ∧ Z.Warmed39 U.vm ∧ U.heap = h) (fun _ _ _ _ _ => True) (fun _ U o U' => ∃ v L, o = .returned v ∧ (Fr n0 L ∧ Keep h U'.heap wr ∧ Q v U'.heap) ∧ FrameEnd U o U' L rm.cells rm.slots)
/-- what a body that may intern promises; SL: what it writes of the booked kinds -/
abbrev CW (l : Launch) (y : MethodName) (bytes : ByteArray) (maxL : Nat) (ret : Option FieldType) (ws : List Jvm.Cond) (rm : Room) (Z : State) (EL : List (String × Nat)) (SL : List Addr) (n0 : Nat) (h : Heap) (as' : Array Value) (wr : List Addr) (Q : Option Value → Heap → Prop) : Prop :=
  MetFree l y (head1 (Jvm.Cond.code y bytes maxL ret :: ws) rm) (fun a U => a = as' ∧ Z.Warmed39 U.vm ∧ U.heap = h ∧ CHv Z EL U.vm h ∧ ∀ x ∈ SL, Safe Z EL U.vm h x) (fun _ _ _ _ _ => True) (fun _ U o U' => ∃ v L, o = .returned v ∧ (Fr n0 L ∧ Keep h U'.heap wr ∧ Q v U'.heap) ∧ CHr Z EL U.vm U.heap U'.vm U'.heap ∧ ReturnedEndW U o U' L rm.cells rm.slots)
abbrev PN (s : State) (n0 : Nat) (h : Heap) (wr : List Addr) (Q : Option Value → Heap → Prop) (kc ks : Nat) : Outcome → State → Prop := fun o t => ∃ v L, o = .returned v ∧ (Fr n0 L ∧ Keep h t.heap wr ∧ Q v t.heap) ∧ FrameEnd s o t L kc ks
abbrev PW (s Z : State) (EL : List (String × Nat)) (n0 : Nat) (h : Heap) (wr : List Addr) (Q : Option Value → Heap → Prop) (kc ks : Nat) : Outcome → State → Prop := fun o t => ∃ v L, o = .returned v ∧ (Fr n0 L ∧ Keep h t.heap wr ∧ Q v t.heap) ∧ CHr Z EL s.vm s.heap t.vm t.heap ∧ ReturnedEndW s o t L kc ks
/-- the walk of a body that interns nothing -/
theorem CN.walk {y : MethodName} {bytes : ByteArray} {maxL : Nat} {ret : Option FieldType} {ws : List Jvm.Cond} {rm : Room} {h0 : Heap} {as' : Array Value} {wr : List Addr} {Q : Option Value → Heap → Prop} {L0 : Array Slot} (hpl : plainFor y = true) (ho : Old Z n0 h0) (hef : ∀ m, entryFrame m as' maxL = mkF m 0 L0 [])
    (k : ∀ p e s m below meth c T, meth.locks = false → meth.sig.returnType = ret → meth.name = y.name → WS p l e rm s m as' below meth c Z [] n0 y.cls bytes maxL false s.vm T h0 [] 0 0 → Wp p e below (PN s n0 h0 wr Q rm.cells rm.slots) T (mkF m 0 L0 [])) : CN l y bytes maxL ret ws rm Z n0 h0 as' wr Q := by
  refine MetFree.of_bodySF hpl hisR ?_
  intro p e s m args below meth c s₁ Bd hml0 hP hK
  obtain ⟨rfl, hZ, hh⟩ := hP
  have X0 : Stand p l e rm s m args below meth c s₁ [] 0 0 := Stand.of_body Bd
  obtain ⟨s₂, o, a1, a2⟩ := k p e s m below meth c s₁ (BodyLoose.notSynchronized Bd) Bd.returns (name_of_methodNamed Bd.named Bd.method).1 ⟨X0, by rw [← hh, Bd.state]; rfl, hZ, findClass_of_methodNamed Bd.named, Bd.exec, Bd.bytes, hml0, Fr.nil n0, ho, Or.inl ⟨rfl, rfl⟩⟩
  exact ⟨s₂, o, castTop (hef m) a1, a2⟩
/-- the walk of a body that may intern -/
theorem CW.walk {y : MethodName} {bytes : ByteArray} {maxL : Nat} {ret : Option FieldType} {ws : List Jvm.Cond} {rm : Room} {h0 : Heap} {as' : Array Value} {wr SL : List Addr} {Q : Option Value → Heap → Prop} {L0 : Array Slot} (hpl : plainFor y = true) (ho : Old Z n0 h0) (hef : ∀ m, entryFrame m as' maxL = mkF m 0 L0 [])
    (k : ∀ p e s m below meth c T, meth.locks = false → meth.sig.returnType = ret → meth.name = y.name → (∀ x ∈ SL, Safe Z EL s.vm h0 x) → WS p l e rm s m as' below meth c Z EL n0 y.cls bytes maxL true s.vm T h0 [] 0 0 → Wp p e below (PW s Z EL n0 h0 wr Q rm.cells rm.slots) T (mkF m 0 L0 [])) : CW l y bytes maxL ret ws rm Z EL SL n0 h0 as' wr Q := by
  refine MetFree.of_bodySF hpl hisR ?_
  intro p e s m args below meth c s₁ Bd hml0 hP hK
  obtain ⟨rfl, hZ, hh, hC, hSL⟩ := hP
  have X0 : Stand p l e rm s m args below meth c s₁ [] 0 0 := Stand.of_body Bd
  subst hh
  obtain ⟨s₂, o, a1, a2⟩ := k p e s m below meth c s₁ (BodyLoose.notSynchronized Bd) Bd.returns (name_of_methodNamed Bd.named Bd.method).1 hSL ⟨X0, by rw [Bd.state]; rfl, hZ, findClass_of_methodNamed Bd.named, Bd.exec, Bd.bytes, hml0, Fr.nil n0, ho, Or.inr ⟨rfl, ⟨_, (State.WarmedH.refl s).since s.heap.size, Nat.le_refl _⟩, CHr.refl hC⟩⟩
  exact ⟨s₂, o, castTop (hef m) a1, a2⟩
theorem f_retN (A : WS p l e R s m args below meth c Z EL n0 own code ml false vm T h locs cells slots) {h0 : Heap} {wr : List Addr} {Q : Option Value → Heap → Prop} {kc ks : Nat} (hlk : meth.locks = false) (hret : meth.sig.returnType = none) (hd : decode code pc = .ok (.return_, 1))  (hc : cells ≤ kc) (hs : slots ≤ ks) (K : Keep h0 h wr) (q : Q (none) h) : Wp p e below (PN s n0 h0 wr Q kc ks) T (mkF m pc L []) := by
  obtain ⟨X, rfl, -, -, hx, hby, -, N, -, b⟩ := A
  obtain ⟨-, rfl⟩ : false = false ∧ vm = s.vm := b.elim id fun b => by cases b.1
  have X : Stand p l e R s m args below meth c T locs cells slots := X
  obtain ⟨fs, hr, hrun, hended, hW, hsame⟩ := X.leave (v := none) (by intro _; rfl) hlk
  refine ⟨_, _, ?_, hrun, hended, _, _, rfl, ⟨N, K, q⟩, ⟨_, rfl⟩, hW, hsame.mono hc hs⟩
  exact X.returnOut hx hret (hb hby hd) hr
theorem f_retW (A : WS p l e R s m args below meth c Z EL n0 own code ml true vm T h locs cells slots) {a0 : Array Value} (hEL : EW Z a0 EL) {h0 : Heap} {wr : List Addr} {Q : Option Value → Heap → Prop} {kc ks : Nat} (hlk : meth.locks = false) (hret : meth.sig.returnType = none) (hd : decode code pc = .ok (.return_, 1))  (hc : cells ≤ kc) (hs : slots ≤ ks) (K : Keep h0 h wr) (q : Q (none) h) : Wp p e below (PW s Z EL n0 h0 wr Q kc ks) T (mkF m pc L []) := by
  obtain ⟨⟨k0, hS, hk⟩, hC⟩ := A.wide
  obtain ⟨X, rfl, hZ, -, hx, hby, -, N, -, -⟩ := A
  obtain ⟨fs, hr, hrun, hended, hW⟩ := X.leaveW hS hk (v := none) (by intro _; rfl) hlk
  refine ⟨_, _, ?_, hrun, hended, _, _, rfl, ⟨N, K, q⟩, hC.trans (show CHr Z EL vm T.heap T.vm T.heap from CHv.at X hZ hEL hC.1), hW.1, hW.2.1, hW.2.2.1, hW.2.2.2.mono hc hs⟩
  exact X.returnOut hx hret (hb hby hd) hr
theorem f_retIN (A : WS p l e R s m args below meth c Z EL n0 own code ml false vm T h locs cells slots) {h0 : Heap} {wr : List Addr} {Q : Option Value → Heap → Prop} {kc ks : Nat} (hlk : meth.locks = false) (hret : meth.sig.returnType = some .int) (hd : decode code pc = .ok (.ireturn, 1)) {z : Int32} (hc : cells ≤ kc) (hs : slots ≤ ks) (K : Keep h0 h wr) (q : Q (some (.int z)) h) : Wp p e below (PN s n0 h0 wr Q kc ks) T (mkF m pc L (.int z :: S)) := by
  obtain ⟨X, rfl, -, -, hx, hby, -, N, -, b⟩ := A
  obtain ⟨-, rfl⟩ : false = false ∧ vm = s.vm := b.elim id fun b => by cases b.1
  have X : Stand p l e R s m args below meth c T locs cells slots := X
  obtain ⟨fs, hr, hrun, hended, hW, hsame⟩ := X.leave (v := some (.int z)) (by intro h; rw [hret] at h; cases h) hlk
  refine ⟨_, _, ?_, hrun, hended, _, _, rfl, ⟨N, K, q⟩, ⟨_, rfl⟩, hW, hsame.mono hc hs⟩
  exact retOut X hx hret rfl (Or.inl ⟨rfl, Or.inl rfl, z, rfl⟩) (hb hby hd) hr
theorem f_retIW (A : WS p l e R s m args below meth c Z EL n0 own code ml true vm T h locs cells slots) {a0 : Array Value} (hEL : EW Z a0 EL) {h0 : Heap} {wr : List Addr} {Q : Option Value → Heap → Prop} {kc ks : Nat} (hlk : meth.locks = false) (hret : meth.sig.returnType = some .int) (hd : decode code pc = .ok (.ireturn, 1)) {z : Int32} (hc : cells ≤ kc) (hs : slots ≤ ks) (K : Keep h0 h wr) (q : Q (some (.int z)) h) : Wp p e below (PW s Z EL n0 h0 wr Q kc ks) T (mkF m pc L (.int z :: S)) := by
  obtain ⟨⟨k0, hS, hk⟩, hC⟩ := A.wide
  obtain ⟨X, rfl, hZ, -, hx, hby, -, N, -, -⟩ := A
  obtain ⟨fs, hr, hrun, hended, hW⟩ := X.leaveW hS hk (v := some (.int z)) (by intro h; rw [hret] at h; cases h) hlk
  refine ⟨_, _, ?_, hrun, hended, _, _, rfl, ⟨N, K, q⟩, hC.trans (show CHr Z EL vm T.heap T.vm T.heap from CHv.at X hZ hEL hC.1), hW.1, hW.2.1, hW.2.2.1, hW.2.2.2.mono hc hs⟩
  exact retOut X hx hret rfl (Or.inl ⟨rfl, Or.inl rfl, z, rfl⟩) (hb hby hd) hr
theorem f_retBN (A : WS p l e R s m args below meth c Z EL n0 own code ml false vm T h locs cells slots) {h0 : Heap} {wr : List Addr} {Q : Option Value → Heap → Prop} {kc ks : Nat} (hlk : meth.locks = false) {t : FieldType} (hret : meth.sig.returnType = some t) (hd : decode code pc = .ok (.ireturn, 1)) {z : Int32} (ht : t = .boolean ∨ t = .byte ∨ t = .char ∨ t = .short) (z' : Int32) (hz : nar t z = z') (hc : cells ≤ kc) (hs : slots ≤ ks) (K : Keep h0 h wr) (q : Q (some (.int z')) h) : Wp p e below (PN s n0 h0 wr Q kc ks) T (mkF m pc L (.int z :: S)) := by
  obtain ⟨X, rfl, -, -, hx, hby, -, N, -, b⟩ := A
  obtain ⟨-, rfl⟩ : false = false ∧ vm = s.vm := b.elim id fun b => by cases b.1
  have X : Stand p l e R s m args below meth c T locs cells slots := X
  obtain ⟨fs, hr, hrun, hended, hW, hsame⟩ := X.leave (v := some (.int z')) (by intro h; rw [hret] at h; cases h) hlk
  refine ⟨_, _, ?_, hrun, hended, _, _, rfl, ⟨N, K, q⟩, ⟨_, rfl⟩, hW, hsame.mono hc hs⟩
  subst hz; exact retN X hx hret ht (hb hby hd) hr
theorem f_retBW (A : WS p l e R s m args below meth c Z EL n0 own code ml true vm T h locs cells slots) {a0 : Array Value} (hEL : EW Z a0 EL) {h0 : Heap} {wr : List Addr} {Q : Option Value → Heap → Prop} {kc ks : Nat} (hlk : meth.locks = false) {t : FieldType} (hret : meth.sig.returnType = some t) (hd : decode code pc = .ok (.ireturn, 1)) {z : Int32} (ht : t = .boolean ∨ t = .byte ∨ t = .char ∨ t = .short) (z' : Int32) (hz : nar t z = z') (hc : cells ≤ kc) (hs : slots ≤ ks) (K : Keep h0 h wr) (q : Q (some (.int z')) h) : Wp p e below (PW s Z EL n0 h0 wr Q kc ks) T (mkF m pc L (.int z :: S)) := by
  obtain ⟨⟨k0, hS, hk⟩, hC⟩ := A.wide
  obtain ⟨X, rfl, hZ, -, hx, hby, -, N, -, -⟩ := A
  obtain ⟨fs, hr, hrun, hended, hW⟩ := X.leaveW hS hk (v := some (.int z')) (by intro h; rw [hret] at h; cases h) hlk
  refine ⟨_, _, ?_, hrun, hended, _, _, rfl, ⟨N, K, q⟩, hC.trans (show CHr Z EL vm T.heap T.vm T.heap from CHv.at X hZ hEL hC.1), hW.1, hW.2.1, hW.2.2.1, hW.2.2.2.mono hc hs⟩
  subst hz; exact retN X hx hret ht (hb hby hd) hr
theorem f_retJN (A : WS p l e R s m args below meth c Z EL n0 own code ml false vm T h locs cells slots) {h0 : Heap} {wr : List Addr} {Q : Option Value → Heap → Prop} {kc ks : Nat} (hlk : meth.locks = false) (hret : meth.sig.returnType = some .long) (hd : decode code pc = .ok (.lreturn, 1)) {z : Int64} (hc : cells ≤ kc) (hs : slots ≤ ks) (K : Keep h0 h wr) (q : Q (some (.long z)) h) : Wp p e below (PN s n0 h0 wr Q kc ks) T (mkF m pc L (.long z :: S)) := by
  obtain ⟨X, rfl, -, -, hx, hby, -, N, -, b⟩ := A
  obtain ⟨-, rfl⟩ : false = false ∧ vm = s.vm := b.elim id fun b => by cases b.1
  have X : Stand p l e R s m args below meth c T locs cells slots := X
  obtain ⟨fs, hr, hrun, hended, hW, hsame⟩ := X.leave (v := some (.long z)) (by intro h; rw [hret] at h; cases h) hlk
  refine ⟨_, _, ?_, hrun, hended, _, _, rfl, ⟨N, K, q⟩, ⟨_, rfl⟩, hW, hsame.mono hc hs⟩
  exact retOut X hx hret rfl (Or.inr (Or.inl ⟨rfl, rfl, z, rfl⟩)) (hb hby hd) hr
theorem f_retJW (A : WS p l e R s m args below meth c Z EL n0 own code ml true vm T h locs cells slots) {a0 : Array Value} (hEL : EW Z a0 EL) {h0 : Heap} {wr : List Addr} {Q : Option Value → Heap → Prop} {kc ks : Nat} (hlk : meth.locks = false) (hret : meth.sig.returnType = some .long) (hd : decode code pc = .ok (.lreturn, 1)) {z : Int64} (hc : cells ≤ kc) (hs : slots ≤ ks) (K : Keep h0 h wr) (q : Q (some (.long z)) h) : Wp p e below (PW s Z EL n0 h0 wr Q kc ks) T (mkF m pc L (.long z :: S)) := by
  obtain ⟨⟨k0, hS, hk⟩, hC⟩ := A.wide
  obtain ⟨X, rfl, hZ, -, hx, hby, -, N, -, -⟩ := A
  obtain ⟨fs, hr, hrun, hended, hW⟩ := X.leaveW hS hk (v := some (.long z)) (by intro h; rw [hret] at h; cases h) hlk
  refine ⟨_, _, ?_, hrun, hended, _, _, rfl, ⟨N, K, q⟩, hC.trans (show CHr Z EL vm T.heap T.vm T.heap from CHv.at X hZ hEL hC.1), hW.1, hW.2.1, hW.2.2.1, hW.2.2.2.mono hc hs⟩
  exact retOut X hx hret rfl (Or.inr (Or.inl ⟨rfl, rfl, z, rfl⟩)) (hb hby hd) hr
theorem f_retRN (A : WS p l e R s m args below meth c Z EL n0 own code ml false vm T h locs cells slots) {h0 : Heap} {wr : List Addr} {Q : Option Value → Heap → Prop} {kc ks : Nat} (hlk : meth.locks = false) {t : FieldType} (hret : meth.sig.returnType = some t) (hd : decode code pc = .ok (.areturn, 1)) {z : Value} (ht : t.isReference = true) (hz : z.isRef = true) (hc : cells ≤ kc) (hs : slots ≤ ks) (K : Keep h0 h wr) (q : Q (some z) h) : Wp p e below (PN s n0 h0 wr Q kc ks) T (mkF m pc L (z :: S)) := by
  obtain ⟨X, rfl, -, -, hx, hby, -, N, -, b⟩ := A
  obtain ⟨-, rfl⟩ : false = false ∧ vm = s.vm := b.elim id fun b => by cases b.1
  have X : Stand p l e R s m args below meth c T locs cells slots := X
  obtain ⟨fs, hr, hrun, hended, hW, hsame⟩ := X.leave (v := some z) (by intro h; rw [hret] at h; cases h) hlk
  refine ⟨_, _, ?_, hrun, hended, _, _, rfl, ⟨N, K, q⟩, ⟨_, rfl⟩, hW, hsame.mono hc hs⟩
  exact retOut X hx hret (by cases t <;> cases z <;> first | rfl | cases ht | cases hz) (Or.inr (Or.inr (Or.inr (Or.inr ⟨rfl, ht, hz⟩)))) (hb hby hd) hr
theorem f_retRW (A : WS p l e R s m args below meth c Z EL n0 own code ml true vm T h locs cells slots) {a0 : Array Value} (hEL : EW Z a0 EL) {h0 : Heap} {wr : List Addr} {Q : Option Value → Heap → Prop} {kc ks : Nat} (hlk : meth.locks = false) {t : FieldType} (hret : meth.sig.returnType = some t) (hd : decode code pc = .ok (.areturn, 1)) {z : Value} (ht : t.isReference = true) (hz : z.isRef = true) (hc : cells ≤ kc) (hs : slots ≤ ks) (K : Keep h0 h wr) (q : Q (some z) h) : Wp p e below (PW s Z EL n0 h0 wr Q kc ks) T (mkF m pc L (z :: S)) := by
  obtain ⟨⟨k0, hS, hk⟩, hC⟩ := A.wide
  obtain ⟨X, rfl, hZ, -, hx, hby, -, N, -, -⟩ := A
  obtain ⟨fs, hr, hrun, hended, hW⟩ := X.leaveW hS hk (v := some z) (by intro h; rw [hret] at h; cases h) hlk
  refine ⟨_, _, ?_, hrun, hended, _, _, rfl, ⟨N, K, q⟩, hC.trans (show CHr Z EL vm T.heap T.vm T.heap from CHv.at X hZ hEL hC.1), hW.1, hW.2.1, hW.2.2.1, hW.2.2.2.mono hc hs⟩
  exact retOut X hx hret (by cases t <;> cases z <;> first | rfl | cases ht | cases hz) (Or.inr (Or.inr (Or.inr (Or.inr ⟨rfl, ht, hz⟩)))) (hb hby hd) hr
theorem f_callS (A : WS p l e R s m args below meth c Z EL n0 own code ml bw vm T h locs cells slots) {i : Nat} {y : MethodName} {bytes : ByteArray} {maxL : Nat} {ret : Option FieldType} {wr : List Addr} {Q : Option Value → Heap → Prop} {kc ks : Nat} (hd : decode code pc = .ok (.invokestatic i, 3)) (hp : pc + 3 = pc') (w1 : (Cond.methodLink own i y).before a0 Z = true) (w2 : (Cond.static y).before a0 Z = true) (w3 : (Cond.initialized y.cls).before a0 Z = true) (w4 : (Cond.code y bytes maxL ret).before a0 Z = true) (hy : y.cls ≠ "java/lang/invoke/MethodHandle" ∧ y.cls ≠ "java/lang/invoke/VarHandle")
    {ps : List FieldType} {r : Option FieldType} (pd : parseMethodDescriptor y.desc = some ⟨ps, r⟩) (argsL rest : List Value) (hal : argsL.length = ps.length) (hS : S = argsL.reverse ++ rest) (hml : L.size = ml) (W : Nat) (hW : (rest.map fun v => v.category).sum ≤ W) (hK : BkN l R p e below (s.setVm vm) args y 3 W argsL.toArray h n0 wr Q kc ks) (hc : cells + kc ≤ R.cells) (hs : slots + ks ≤ R.slots) (hn : ∀ x ∈ wr, n0 ≤ x) (sf : bw = true → ∀ x ∈ wr, Safe Z EL vm h x)
    (k : ∀ (v : Option Value) (T' : State) (h' : Heap) (L' : List Loc), WS p l e R s m args below meth c Z EL n0 own code ml bw vm T' h' (locs ++ L') (cells + kc) (slots + ks) → Keep h h' wr → Q v h' → Wp p e below P T' (mkF m pc' L (v.toList ++ rest))) : Wp p e below P T (mkF m pc L S) := by
  subst hp hS
  obtain ⟨v, _, ⟨T', L1, k1, n1⟩, -, X', ⟨L', ⟨N, K, q⟩, l1, y1, z1⟩, st⟩ := Jvm.LawKit.callS A.1 A.2.2.2.2.1 (y := y) A.2.2.2.1 (mvT A.hZ w1) (mvT A.hZ w2) (mvT A.hZ w3) (mvT A.hZ w4) hy hK (g := mkF m pc L (argsL.reverse ++ rest)) rfl (hml.trans A.2.2.2.2.2.2.1.symm) (argsL := argsL) (rest := rest) (lenOf pd hal) rfl (by show 2 * 0 + _ ≤ _; omega) (hb A.2.2.2.2.2.1 hd) (fun _ _ => ⟨rfl, A.2.1, hc, hs⟩)
  dsimp only [Pt.U, Pt.locs, Pt.cells, Pt.slots] at X' l1 y1 z1 st N K q
  subst l1 y1 z1
  exact (k v T' T'.heap L' (A.kept X' rfl (A.2.2.2.2.2.2.2.1.app N) K hn sf) K q).go st
theorem f_callI (A : WS p l e R s m args below meth c Z EL n0 own code ml bw vm T h locs cells slots) {i : Nat} {y : MethodName} {bytes : ByteArray} {maxL : Nat} {a : Addr} {wr : List Addr} {Q : Option Value → Heap → Prop} {kc ks : Nat} (hd : decode code pc = .ok (.invokespecial i, 3)) (hp : pc + 3 = pc') (hy1 : y.name = "<init>") (w1 : (Cond.methodLink own i y).before a0 Z = true) (w2 : (Cond.instanceMethod y).before a0 Z = true) (w4 : (Cond.code y bytes maxL none).before a0 Z = true) (hy : y.cls ≠ "java/lang/invoke/MethodHandle" ∧ y.cls ≠ "java/lang/invoke/VarHandle")
    {ps : List FieldType} {r : Option FieldType} (pd : parseMethodDescriptor y.desc = some ⟨ps, r⟩) (argsL rest : List Value) (hal : argsL.length = ps.length) (hS : S = argsL.reverse ++ .ref a :: rest) (hml : L.size = ml) (W : Nat) (hW : (rest.map fun v => v.category).sum ≤ W) (hK : BkN l R p e below (s.setVm vm) args y 3 W (.ref a :: argsL).toArray h n0 wr Q kc ks) (hc : cells + kc ≤ R.cells) (hs : slots + ks ≤ R.slots) (hn : ∀ x ∈ wr, n0 ≤ x) (sf : bw = true → ∀ x ∈ wr, Safe Z EL vm h x)
    (k : ∀ (v : Option Value) (T' : State) (h' : Heap) (L' : List Loc), WS p l e R s m args below meth c Z EL n0 own code ml bw vm T' h' (locs ++ L') (cells + kc) (slots + ks) → Keep h h' wr → Q v h' → Wp p e below P T' (mkF m pc' L (v.toList ++ rest))) : Wp p e below P T (mkF m pc L S) := by
  subst hp hS
  obtain ⟨v, _, ⟨T', L1, k1, n1⟩, -, X', ⟨L', ⟨N, K, q⟩, l1, y1, z1⟩, st⟩ := A.1.specialBack A.2.2.2.2.1 (y := y) hy1 A.2.2.2.1 (mvT A.hZ w1) (mvT A.hZ w2) (mvT A.hZ w4) hy hK (g := mkF m pc L (argsL.reverse ++ .ref a :: rest)) rfl (hml.trans A.2.2.2.2.2.2.1.symm) (Steps.refl _) (a := a) (argsL := argsL) (rest := rest) (lenOf pd hal) rfl (by show 2 * 0 + _ ≤ _; omega) (hb A.2.2.2.2.2.1 hd) (fun _ _ => ⟨rfl, A.2.1, hc, hs⟩)
  dsimp only [Pt.U, Pt.locs, Pt.cells, Pt.slots] at X' l1 y1 z1 st N K q
  subst l1 y1 z1
  exact (k v T' T'.heap L' (A.kept X' rfl (A.2.2.2.2.2.2.2.1.app N) K hn sf) K q).gos st
theorem f_callV (A : WS p l e R s m args below meth c Z EL n0 own code ml bw vm T h locs cells slots) {i : Nat} {y z : MethodName} {C : String} {a : Addr} {wr : List Addr} {Q : Option Value → Heap → Prop} {kc ks : Nat} (hd : decode code pc = .ok (.invokevirtual i, 3)) (hp : pc + 3 = pc') (w1 : (Cond.methodLink own i y).before a0 Z = true) (w2 : (Cond.declares y).before a0 Z = true) (hnf : NotFace (s.setVm vm) y) (w3 : (Cond.selects C y z).before a0 Z = true) (w4 : (Cond.instanceMethod z).before a0 Z = true) (hy : y.cls ≠ "java/lang/invoke/MethodHandle" ∧ y.cls ≠ "java/lang/invoke/VarHandle") (E : Exa Z h a C)
    {ps : List FieldType} {r : Option FieldType} (pd : parseMethodDescriptor y.desc = some ⟨ps, r⟩) (argsL rest : List Value) (hal : argsL.length = ps.length) (hS : S = argsL.reverse ++ .ref a :: rest) (hml : L.size = ml) (W : Nat) (hW : (rest.map fun v => v.category).sum ≤ W) (hK : BkN l R p e below (s.setVm vm) args z 3 W (.ref a :: argsL).toArray h n0 wr Q kc ks) (hc : cells + kc ≤ R.cells) (hs : slots + ks ≤ R.slots) (hn : ∀ x ∈ wr, n0 ≤ x) (sf : bw = true → ∀ x ∈ wr, Safe Z EL vm h x)
    (k : ∀ (v : Option Value) (T' : State) (h' : Heap) (L' : List Loc), WS p l e R s m args below meth c Z EL n0 own code ml bw vm T' h' (locs ++ L') (cells + kc) (slots + ks) → Keep h h' wr → Q v h' → Wp p e below P T' (mkF m pc' L (v.toList ++ rest))) : Wp p e below P T (mkF m pc L S) := by
  subst hp hS
  obtain ⟨cq, kq, qa, qb, qc⟩ := isOf A.hZ A.2.1 E
  obtain ⟨v, _, ⟨T', L1, k1, n1⟩, -, X', ⟨L', ⟨N, K, q⟩, l1, y1, z1⟩, st⟩ := A.1.virtualBack A.2.2.2.2.1 (y := y) (z := z) A.2.2.2.1 (mvT A.hZ w1) (mvT A.hZ w2) hnf (mvT A.hZ w3) (mvT A.hZ w4) hy hK qa qc (g := mkF m pc L (argsL.reverse ++ .ref a :: rest)) rfl (hml.trans A.2.2.2.2.2.2.1.symm) (Steps.refl _) (argsL := argsL) (rest := rest) (lenOf pd hal) rfl (by show 2 * 0 + _ ≤ _; omega) (hb A.2.2.2.2.2.1 hd) (fun _ _ => ⟨rfl, A.2.1, hc, hs⟩)
  dsimp only [Pt.U, Pt.locs, Pt.cells, Pt.slots] at X' l1 y1 z1 st N K q
  subst l1 y1 z1
  exact (k v T' T'.heap L' (A.kept X' rfl (A.2.2.2.2.2.2.2.1.app N) K hn sf) K q).gos st
theorem nfS {y : MethodName} {C : String} (A : WS p l e R s m args below meth c Z EL n0 own code ml bw vm T h locs cells slots) (w3 : (Cond.selects C y y).before a0 Z = true) : NotFace (s.setVm vm) y := notFace_of_selects (args := #[]) (mvT A.hZ w3)
/-- the payer, of a contract -/
theorem CN.pay {y : MethodName} {bytes : ByteArray} {maxL : Nat} {ret : Option FieldType} {rm : Room} {as' : Array Value} {wr : List Addr} {Q : Option Value → Heap → Prop} {len W : Nat} (A : WS p l e R s m args below meth c Z EL n0 own code ml bw vm T h locs cells slots) (hM : CN l y bytes maxL ret [] rm Z n0 h as' wr Q) (wc : (Cond.code y bytes maxL ret).before a0 Z = true) (wz : (Cond.initialized y.cls).before a0 Z = true) (hf : rm.frames + 1 ≤ R.frames) (hl : W + (maxL + 11) + rm.locals ≤ R.locals) :
    BkN l R p e below (s.setVm vm) args y len W as' h n0 wr Q rm.cells rm.slots :=
  backOf (Q := fun v h' L => Fr n0 L ∧ Keep h h' wr ∧ Q v h') hM A.hZ wc wz hf hl
theorem nfOf {U : State} {a : Array Value} {C : String} {y y0 : MethodName} (w : (Cond.selects C y0 y0).before a U = true) (hc : y0.cls = y.cls) : NotFace U y := fun r0 h0 => by
  obtain ⟨c2, r2, m2, q1, q2, q3, q4, kP, hkP, hkPi⟩ := Cond.selects_spec w
  have e1 := findClass_of_methodNamed h0
  have e2 := findClass_of_methodNamed q3
  rw [hc] at e2
  have e3 : r0.cls = m2.cls := Option.some.inj (e1.symm.trans e2)
  exact ⟨kP, by rw [e3]; exact hkP, hkPi⟩
theorem nfT {C : String} {y y0 : MethodName} (A : WS p l e R s m args below meth c Z EL n0 own code ml bw vm T h locs cells slots) (w : (Cond.selects C y0 y0).before a0 Z = true) (hc : y0.cls = y.cls) : NotFace (s.setVm vm) y := nfOf (a := #[]) (mvT A.hZ w) hc
theorem sameSelf {U : State} {a : Array Value} {y : MethodName} (wi : (Cond.instanceMethod y).before a U = true) (nf : NotFace U y) (hy : y.cls ≠ "java/lang/invoke/MethodHandle" ∧ y.cls ≠ "java/lang/invoke/VarHandle") : (Cond.sameMethod y.cls y.cls y.name y.desc).before a U = true := by
  obtain ⟨mk, methM, hnamed, -, -, -⟩ := Cond.instanceMethod_spec wi
  obtain ⟨k, hk, hni⟩ := nf mk hnamed
  have hf : U.methodFound? y.cls y.name y.desc = some mk := State.methodFound?_of_named hnamed hy
  have hc := findClass_of_methodNamed hnamed
  have hn : U.methodNamed? ⟨y.cls, y.name, y.desc⟩ = some mk := hnamed
  simp only [Cond.before, Cond.holds, Cond.value, hc, hf, hn]
  simp [hk, hni]
theorem f_callP (A : WS p l e R s m args below meth c Z EL n0 own code ml bw vm T h locs cells slots) {i : Nat} {y : MethodName} {bytes : ByteArray} {maxL : Nat} {ret : Option FieldType} {C D : String} {a : Addr} {wr : List Addr} {Q : Option Value → Heap → Prop} {kc ks : Nat} (hd : decode code pc = .ok (.invokevirtual i, 3)) (hp : pc + 3 = pc') (w1 : (Cond.methodLink own i y).before a0 Z = true) (w2 : (Cond.instanceMethod y).before a0 Z = true) (w3 : (Cond.privateMethod y).before a0 Z = true) (w4 : (Cond.selects D y y).before a0 Z = true) (wc : (Cond.code y bytes maxL ret).before a0 Z = true) (hy : y.cls ≠ "java/lang/invoke/MethodHandle" ∧ y.cls ≠ "java/lang/invoke/VarHandle") (E : Exa Z h a C)
    {ps : List FieldType} {r : Option FieldType} (pd : parseMethodDescriptor y.desc = some ⟨ps, r⟩) (argsL rest : List Value) (hal : argsL.length = ps.length) (hS : S = argsL.reverse ++ .ref a :: rest) (hml : L.size = ml) (W : Nat) (hW : (rest.map fun v => v.category).sum ≤ W) (hK : BkN l R p e below (s.setVm vm) args y 3 W (.ref a :: argsL).toArray h n0 wr Q kc ks) (hc : cells + kc ≤ R.cells) (hs : slots + ks ≤ R.slots) (hn : ∀ x ∈ wr, n0 ≤ x) (sf : bw = true → ∀ x ∈ wr, Safe Z EL vm h x)
    (k : ∀ (v : Option Value) (T' : State) (h' : Heap) (L' : List Loc), WS p l e R s m args below meth c Z EL n0 own code ml bw vm T' h' (locs ++ L') (cells + kc) (slots + ks) → Keep h h' wr → Q v h' → Wp p e below P T' (mkF m pc' L (v.toList ++ rest))) : Wp p e below P T (mkF m pc L S) := by
  subst hp hS
  have hpriv := Cond.privateMethod_at (mvP (args := args) A.hZ w3)
  have hinst : (Cond.instanceMethod y).before args (s.setVm vm) = true := mvT A.hZ w2
  obtain ⟨mk, methM, hnamed, -, -, -⟩ := Cond.instanceMethod_spec hinst
  obtain ⟨kk, hkk, hni⟩ := notFace_of_selects (args := args) (mvT A.hZ w4) mk hnamed
  have hsel := selects_self_of_private (findClass_of_methodNamed hnamed) hkk hni hpriv hinst hy
  obtain ⟨cq, q1, q2⟩ := E.cell
  obtain ⟨v, _, ⟨T', L1, k1, n1⟩, -, X', ⟨L', ⟨N, K, q⟩, l1, y1, z1⟩, st⟩ := A.1.privateBack A.2.2.2.2.1 (y := y) A.2.2.2.1 (mvT A.hZ w1) hinst hsel hpriv (mvT A.hZ wc) hy hK (g := mkF m pc L (argsL.reverse ++ .ref a :: rest)) rfl (hml.trans A.2.2.2.2.2.2.1.symm) (Steps.refl _) (a := a) (by rw [A.2.1]; exact q1) q2 (argsL := argsL) (rest := rest) (lenOf pd hal) rfl (by show 2 * 0 + _ ≤ _; omega) (hb A.2.2.2.2.2.1 hd) (fun _ _ => ⟨rfl, A.2.1, hc, hs⟩)
  dsimp only [Pt.U, Pt.locs, Pt.cells, Pt.slots] at X' l1 y1 z1 st N K q
  subst l1 y1 z1
  exact (k v T' T'.heap L' (A.kept X' rfl (A.2.2.2.2.2.2.2.1.app N) K hn sf) K q).gos st
theorem f_callU (A : WS p l e R s m args below meth c Z EL n0 own code ml bw vm T h locs cells slots) {i : Nat} {y : MethodName} {bytes : ByteArray} {maxL : Nat} {ret : Option FieldType} {C : String} {a : Addr} {wr : List Addr} {Q : Option Value → Heap → Prop} {kc ks : Nat} (hd : decode code pc = .ok (.invokespecial i, 3)) (hp : pc + 3 = pc') (w1 : (Cond.methodLink own i y).before a0 Z = true) (nf : NotFace Z y) (hy2 : y.cls ≠ "java/lang/invoke/MethodHandle" ∧ y.cls ≠ "java/lang/invoke/VarHandle") (w3 : (Cond.instanceMethod y).before a0 Z = true) (w4 : (Cond.superclass own y.cls).before a0 Z = true) (wc : (Cond.code y bytes maxL ret).before a0 Z = true) (hy : y.name ≠ "<init>") (E : Exa Z h a C)
    {ps : List FieldType} {r : Option FieldType} (pd : parseMethodDescriptor y.desc = some ⟨ps, r⟩) (argsL rest : List Value) (hal : argsL.length = ps.length) (hS : S = argsL.reverse ++ .ref a :: rest) (hml : L.size = ml) (W : Nat) (hW : (rest.map fun v => v.category).sum ≤ W) (hK : BkN l R p e below (s.setVm vm) args y 3 W (.ref a :: argsL).toArray h n0 wr Q kc ks) (hc : cells + kc ≤ R.cells) (hs : slots + ks ≤ R.slots) (hn : ∀ x ∈ wr, n0 ≤ x) (sf : bw = true → ∀ x ∈ wr, Safe Z EL vm h x)
    (k : ∀ (v : Option Value) (T' : State) (h' : Heap) (L' : List Loc), WS p l e R s m args below meth c Z EL n0 own code ml bw vm T' h' (locs ++ L') (cells + kc) (slots + ks) → Keep h h' wr → Q v h' → Wp p e below P T' (mkF m pc' L (v.toList ++ rest))) : Wp p e below P T (mkF m pc L S) := by
  subst hp hS
  obtain ⟨v, _, ⟨T', L1, k1, n1⟩, -, X', ⟨L', ⟨N, K, q⟩, l1, y1, z1⟩, st⟩ := superBack A.1 A.2.2.2.2.1 A.hZ (y := y) A.2.2.2.1 w1 (sameSelf w3 nf hy2) w3 w4 hy hK A.2.1 (Ins.self E) (g := mkF m pc L (argsL.reverse ++ .ref a :: rest)) rfl (hml.trans A.2.2.2.2.2.2.1.symm) wc (argsL := argsL) (rest := rest) (lenOf pd hal) rfl (by show 2 * 0 + _ ≤ _; omega) (hb A.2.2.2.2.2.1 hd) (fun _ _ => ⟨rfl, A.2.1, hc, hs⟩)
  dsimp only [Pt.U, Pt.locs, Pt.cells, Pt.slots] at X' l1 y1 z1 st N K q
  subst l1 y1 z1
  exact (k v T' T'.heap L' (A.kept X' rfl (A.2.2.2.2.2.2.2.1.app N) K hn sf) K q).gos st
theorem f_callF (A : WS p l e R s m args below meth c Z EL n0 own code ml bw vm T h locs cells slots) {i n : Nat} {y z : MethodName} {C : String} {a : Addr} {wr : List Addr} {Q : Option Value → Heap → Prop} {kc ks : Nat} (hd : decode code pc = .ok (.invokeinterface i n, 5)) (hp : pc + 5 = pc') (w1 : (Cond.methodLink own i y).before a0 Z = true) (w2 : (Cond.declares y).before a0 Z = true) (w3 : (Cond.interfaceMethod y.cls y.cls y.name y.desc).before a0 Z = true) (hfc : ((Cond.interfaceMethod y.cls y.cls y.name y.desc).onTables && (Cond.interfaceMethod y.cls y.cls y.name y.desc).keepsFace) = true) (w4 : (Cond.selects C y z).before a0 Z = true) (w5 : (Cond.instanceMethod z).before a0 Z = true) (w6 : (Cond.publicMethod z).before a0 Z = true) (w7 : (Cond.unhidden C y.name y.desc).before a0 Z = true) (w8 : (Cond.castable C y.cls).before a0 Z = true) (hy : y.cls ≠ "java/lang/invoke/MethodHandle" ∧ y.cls ≠ "java/lang/invoke/VarHandle") (E : Exa Z h a C)
    {ps : List FieldType} {r : Option FieldType} (pd : parseMethodDescriptor y.desc = some ⟨ps, r⟩) (argsL rest : List Value) (hal : argsL.length = ps.length) (hS : S = argsL.reverse ++ .ref a :: rest) (hml : L.size = ml) (W : Nat) (hW : (rest.map fun v => v.category).sum ≤ W) (hK : BkN l R p e below (s.setVm vm) args z 5 W (.ref a :: argsL).toArray h n0 wr Q kc ks) (hc : cells + kc ≤ R.cells) (hs : slots + ks ≤ R.slots) (hn : ∀ x ∈ wr, n0 ≤ x) (sf : bw = true → ∀ x ∈ wr, Safe Z EL vm h x)
    (k : ∀ (v : Option Value) (T' : State) (h' : Heap) (L' : List Loc), WS p l e R s m args below meth c Z EL n0 own code ml bw vm T' h' (locs ++ L') (cells + kc) (slots + ks) → Keep h h' wr → Q v h' → Wp p e below P T' (mkF m pc' L (v.toList ++ rest))) : Wp p e below P T (mkF m pc L S) := by
  subst hp hS
  obtain ⟨cq, kq, qa, qb, qc⟩ := isOf A.hZ A.2.1 E
  obtain ⟨v, _, ⟨T', L1, k1, n1⟩, -, X', ⟨L', ⟨N, K, q⟩, l1, y1, z1⟩, st⟩ := A.1.interfaceBack A.2.2.2.2.1 (xi := y) (y := z) A.2.2.2.1 (mvT A.hZ w1) (mvT A.hZ w2) (mvT A.hZ w3 hfc) (mvT A.hZ w4) (mvT A.hZ w5) (mvT A.hZ w6) (mvT A.hZ w7) (mvT A.hZ w8) hy hK qa qb qc (g := mkF m pc L (argsL.reverse ++ .ref a :: rest)) rfl (hml.trans A.2.2.2.2.2.2.1.symm) (Steps.refl _) (argsL := argsL) (rest := rest) (lenOf pd hal) rfl (by show 2 * 0 + _ ≤ _; omega) (hb A.2.2.2.2.2.1 hd) (fun _ _ => ⟨rfl, A.2.1, hc, hs⟩)
  dsimp only [Pt.U, Pt.locs, Pt.cells, Pt.slots] at X' l1 y1 z1 st N K q
  subst l1 y1 z1
  exact (k v T' T'.heap L' (A.kept X' rfl (A.2.2.2.2.2.2.2.1.app N) K hn sf) K q).gos st
theorem f_clone (A : WS p l e R s m args below meth c Z EL n0 own code ml bw vm T h locs cells slots) {ad : String} {i : Nat} {a : Addr} {kA : ClassId} {ty : FieldType} {z : Int32} {vs : List Value} {dv : Value} (W cap : Nat) (hd : decode code pc = .ok (.invokevirtual i, 3)) (hp : pc + 3 = pc') (w1 : (Cond.methodLink own i ⟨ad, "clone", "()Ljava/lang/Object;"⟩).before a0 Z = true) (w2 : (Cond.sameMethod ad "java/lang/Object" "clone" "()Ljava/lang/Object;").before a0 Z = true) (w3 : (Cond.native ⟨"java/lang/Object", "clone", "()Ljava/lang/Object;"⟩).before a0 Z = true) (w4 : (Cond.instanceMethod ⟨"java/lang/Object", "clone", "()Ljava/lang/Object;"⟩).before a0 Z = true) (w5 : (Cond.selects ad ⟨ad, "clone", "()Ljava/lang/Object;"⟩ ⟨"java/lang/Object", "clone", "()Ljava/lang/Object;"⟩).before a0 Z = true) (w6 : (Cond.castable ad "java/lang/Cloneable").before a0 Z = true)
    (F : Arv Z h a kA ty z vs dv) (E : Exa Z h a ad) (hml : L.size = ml) (hf : 1 ≤ R.frames) (hW : (S.map fun v => v.category).sum ≤ W) (hl : W + 14 ≤ R.locals) (hcap : z.toNatClampNeg ≤ cap) (hc : cells + 1 ≤ R.cells) (hsl : slots + cap ≤ R.slots)
    (k : ∀ (b : Addr) (T' : State) (h' : Heap), b = h.size → WS p l e R s m args below meth c Z EL n0 own code ml bw vm T' h' locs (cells + 1) (slots + cap) → Ext h h' → Arv Z h' b kA ty z vs dv → Exa Z h' b ad → Wp p e below P T' (mkF m pc' L (.ref b :: S))) : Wp p e below P T (mkF m pc L (.ref a :: S)) := by
  subst hp
  obtain ⟨T', h', X', q, E', F', G', st⟩ := cloneH A.1 A.2.2.2.2.1 A.hZ A.2.2.2.1 w1 w2 w3 w4 w5 w6 A.2.1 F.arh E (g := mkF m pc L (.ref a :: S)) rfl (hml.trans A.2.2.2.2.2.2.1.symm) rfl (hb A.2.2.2.2.2.1 hd) hf (W := W) (by show 2 * 0 + _ ≤ _; omega) hl hcap hc hsl
  exact (k _ T' h' rfl (A.grow X' q E') E' F' G').go st
theorem f_arrcpy (A : WS p l e R s m args below meth c Z EL n0 own code ml bw vm T h locs cells slots) {i : Nat} {a b : Addr} {kA kB : ClassId} {ty ty' : FieldType} {z z' sp dp nn : Int32} {vs vd us vd' : List Value} {dv dd : Value} (W : Nat) (hd : decode code pc = .ok (.invokestatic i, 3)) (hp : pc + 3 = pc') (w1 : (Cond.methodLink own i Jvm.Stand.acN).before a0 Z = true) (w2 : (Cond.native Jvm.Stand.acN).before a0 Z = true) (w3 : (Cond.static Jvm.Stand.acN).before a0 Z = true) (w4 : (Cond.initialized "java/lang/System").before a0 Z = true)
    (F : Arv Z h a kA ty z vs dv) (G : Arv Z h b kB ty' z' vd dd) (hty : (ty = ty' ∧ refKind ty = false) ∨ (refKind ty = true ∧ refKind ty' = true ∧ StoL Z h b us)) (h1 : ¬ sp < 0) (h2 : ¬ dp < 0) (h3 : ¬ nn < 0) (h4 : sp.toNatClampNeg + nn.toNatClampNeg ≤ z.toNatClampNeg) (h5 : dp.toNatClampNeg + nn.toNatClampNeg ≤ z'.toNatClampNeg)
    (hus : us = (List.range nn.toNatClampNeg).map fun i => vs.getD (sp.toNatClampNeg + i) dv) (hll : dp.toNatClampNeg + nn.toNatClampNeg ≤ vd.length) (hvd : vd.take dp.toNatClampNeg ++ us ++ vd.drop (dp.toNatClampNeg + nn.toNatClampNeg) = vd') (ge : n0 ≤ b) (sf : bw = true → Safe Z EL vm h b) (hml : L.size = ml) (hf : 1 ≤ R.frames) (hW : (S.map fun v => v.category).sum ≤ W) (hlo : W + (nativeFrameWords "java/lang/System" "arraycopy" 5 + 11) ≤ R.locals)
    (k : ∀ (T' : State) (h' : Heap) (L' : List Loc), WS p l e R s m args below meth c Z EL n0 own code ml bw vm T' h' L' cells slots → Keep h h' [b] → Arv Z h' b kB ty' z' vd' dd → Wp p e below P T' (mkF m pc' L S)) : Wp p e below P T (mkF m pc L (.int nn :: .int dp :: .ref b :: .int sp :: .ref a :: S)) := by
  subst hp hvd
  obtain ⟨T', h', L', X', q, N, K, V, st⟩ := cpA A.1 A.2.2.2.2.1 A.hZ A.2.2.2.1 w1 w2 w3 w4 A.2.1 F G hty h1 h2 h3 h4 h5 hus hll A.2.2.2.2.2.2.2.1 ge (g := mkF m pc L (.int nn :: .int dp :: .ref b :: .int sp :: .ref a :: S)) rfl (hml.trans A.2.2.2.2.2.2.1.symm) rfl (hb A.2.2.2.2.2.1 hd) hf (W := W) (by show 2 * 0 + _ ≤ _; omega) hlo
  exact (k T' h' L' (A.kept X' q N K (allS ge all0) (fun b => sfS (sf b) sf0)) K V).go st
theorem f_instNull (A : WS p l e R s m args below meth c Z EL n0 own code ml bw vm T h locs cells slots) {i : Nat} (hd : decode code pc = .ok (.instanceof i, 3)) (hp : pc + 3 = pc') (k : Wp p e below P T (mkF m pc' L (.int 0 :: S))) : Wp p e below P T (mkF m pc L (.null :: S)) := by
  subst hp; exact k.go fun t q => A.1.instanceofNull A.2.2.2.2.1 (g := mkF m pc L (.null :: S)) rfl rfl (hb A.2.2.2.2.2.1 hd) t q
theorem f_castNull (A : WS p l e R s m args below meth c Z EL n0 own code ml bw vm T h locs cells slots) {i : Nat} (hd : decode code pc = .ok (.checkcast i, 3)) (hp : pc + 3 = pc') (k : Wp p e below P T (mkF m pc' L (.null :: S))) : Wp p e below P T (mkF m pc L (.null :: S)) := by
  subst hp; exact k.go fun t q => A.1.checkcastNull A.2.2.2.2.1 (g := mkF m pc L (.null :: S)) rfl rfl (hb A.2.2.2.2.2.1 hd) t q
theorem f_instNo (A : WS p l e R s m args below meth c Z EL n0 own code ml bw vm T h locs cells slots) {C K : String} {i : Nat} {a : Addr} (hd : decode code pc = .ok (.instanceof i, 3)) (hp : pc + 3 = pc') (w : (Cond.classLink own i K).before a0 Z = true) (E : Exa Z h a C) (F : ∃ c t, Z.vm.findClass C = some c ∧ Z.vm.findClass K = some t ∧ Z.vm.assignable c t = false) (k : ∀ (T' : State), WS p l e R s m args below meth c Z EL n0 own code ml bw vm T' h locs cells slots → Wp p e below P T' (mkF m pc' L (.int 0 :: S))) : Wp p e below P T (mkF m pc L (.ref a :: S)) := by
  subst hp
  obtain ⟨T', X', q, st⟩ := instNo A.1 A.2.2.2.2.1 A.hZ A.2.2.2.1 w A.2.1 E F (g := mkF m pc L (.ref a :: S)) rfl rfl (hb A.2.2.2.2.2.1 hd)
  exact (k T' (A.still X' q)).go st
theorem f_callSW (A : WS p l e R s m args below meth c Z EL n0 own code ml true vm T h locs cells slots) {i : Nat} {y : MethodName} {bytes : ByteArray} {maxL : Nat} {ret : Option FieldType} {wr : List Addr} {Q : Option Value → Heap → Prop} {kc ks : Nat} (hd : decode code pc = .ok (.invokestatic i, 3)) (hp : pc + 3 = pc') (w1 : (Cond.methodLink own i y).before a0 Z = true) (w2 : (Cond.static y).before a0 Z = true) (w3 : (Cond.initialized y.cls).before a0 Z = true) (w4 : (Cond.code y bytes maxL ret).before a0 Z = true) (hy : y.cls ≠ "java/lang/invoke/MethodHandle" ∧ y.cls ≠ "java/lang/invoke/VarHandle")
    {ps : List FieldType} {r : Option FieldType} (pd : parseMethodDescriptor y.desc = some ⟨ps, r⟩) (argsL rest : List Value) (hal : argsL.length = ps.length) (hS : S = argsL.reverse ++ rest) (hml : L.size = ml) (W : Nat) (hW : (rest.map fun v => v.category).sum ≤ W) (hK : BkS l R p e below (s.setVm vm) args y 3 W argsL.toArray h n0 wr Q kc ks Z EL vm) (hc : cells + kc ≤ R.cells) (hs : slots + ks ≤ R.slots) (hn : ∀ x ∈ wr, n0 ≤ x)
    (k : ∀ (v : Option Value) (vm' : Vm) (T' : State) (h' : Heap) (L' : List Loc), WS p l e R s m args below meth c Z EL n0 own code ml true vm' T' h' (locs ++ L') (cells + kc) (slots + ks) → Keep h h' wr → CHr Z EL vm h vm' h' → Q v h' → Wp p e below P T' (mkF m pc' L (v.toList ++ rest))) : Wp p e below P T (mkF m pc L S) := by
  subst hp hS
  obtain ⟨v, _, ⟨T', L1, k1, n1⟩, -, X', hS2, hg2, ⟨L', ⟨N, K, q⟩, l1, y1, z1, hCC⟩, st⟩ := callSS A.1 A.2.2.2.2.1 (y := y) A.2.2.2.1 (mvT A.hZ w1) (mvT A.hZ w2) (mvT A.hZ w3) (mvT A.hZ w4) hy hK (g := mkF m pc L (argsL.reverse ++ rest)) rfl (hml.trans A.2.2.2.2.2.2.1.symm) (argsL := argsL) (rest := rest) (lenOf pd hal) rfl (by show 2 * 0 + _ ≤ _; omega) (hb A.2.2.2.2.2.1 hd) (fun _ _ => ⟨rfl, A.2.1, hc, hs⟩)
  dsimp only [Pt.U, Pt.locs, Pt.cells, Pt.slots] at X' l1 y1 z1 st N K q hS2 hg2 hCC
  subst l1 y1 z1
  obtain ⟨⟨k0, hS, hk⟩, hC⟩ := A.wide
  obtain ⟨X2, hS3, hZ3, ho3⟩ := rebS hS (A.2.1 ▸ hk) X' hS2 hg2 A.hZ A.2.2.2.1
  exact (k v T'.vm T' T'.heap L' ⟨X2, rfl, hZ3, ho3, A.2.2.2.2.1, A.2.2.2.2.2.1, A.2.2.2.2.2.2.1, A.2.2.2.2.2.2.2.1.app N, A.old.keep K hn, Or.inr ⟨rfl, ⟨_, hS3, Nat.le_refl _⟩, hC.trans hCC⟩⟩ K hCC q).gos st
theorem f_callIW (A : WS p l e R s m args below meth c Z EL n0 own code ml true vm T h locs cells slots) {i : Nat} {y : MethodName} {bytes : ByteArray} {maxL : Nat} {a : Addr} {wr : List Addr} {Q : Option Value → Heap → Prop} {kc ks : Nat} (hd : decode code pc = .ok (.invokespecial i, 3)) (hp : pc + 3 = pc') (hy1 : y.name = "<init>") (w1 : (Cond.methodLink own i y).before a0 Z = true) (w2 : (Cond.instanceMethod y).before a0 Z = true) (w4 : (Cond.code y bytes maxL none).before a0 Z = true) (hy : y.cls ≠ "java/lang/invoke/MethodHandle" ∧ y.cls ≠ "java/lang/invoke/VarHandle")
    {ps : List FieldType} {r : Option FieldType} (pd : parseMethodDescriptor y.desc = some ⟨ps, r⟩) (argsL rest : List Value) (hal : argsL.length = ps.length) (hS : S = argsL.reverse ++ .ref a :: rest) (hml : L.size = ml) (W : Nat) (hW : (rest.map fun v => v.category).sum ≤ W) (hK : BkS l R p e below (s.setVm vm) args y 3 W (.ref a :: argsL).toArray h n0 wr Q kc ks Z EL vm) (hc : cells + kc ≤ R.cells) (hs : slots + ks ≤ R.slots) (hn : ∀ x ∈ wr, n0 ≤ x)
    (k : ∀ (v : Option Value) (vm' : Vm) (T' : State) (h' : Heap) (L' : List Loc), WS p l e R s m args below meth c Z EL n0 own code ml true vm' T' h' (locs ++ L') (cells + kc) (slots + ks) → Keep h h' wr → CHr Z EL vm h vm' h' → Q v h' → Wp p e below P T' (mkF m pc' L (v.toList ++ rest))) : Wp p e below P T (mkF m pc L S) := by
  subst hp hS
  obtain ⟨v, _, ⟨T', L1, k1, n1⟩, -, X', hS2, hg2, ⟨L', ⟨N, K, q⟩, l1, y1, z1, hCC⟩, st⟩ := A.1.specialBackS A.2.2.2.2.1 (y := y) hy1 A.2.2.2.1 (mvT A.hZ w1) (mvT A.hZ w2) (mvT A.hZ w4) hy hK (g := mkF m pc L (argsL.reverse ++ .ref a :: rest)) rfl (hml.trans A.2.2.2.2.2.2.1.symm) (Steps.refl _) (a := a) (argsL := argsL) (rest := rest) (lenOf pd hal) rfl (by show 2 * 0 + _ ≤ _; omega) (hb A.2.2.2.2.2.1 hd) (fun _ _ => ⟨rfl, A.2.1, hc, hs⟩)
  dsimp only [Pt.U, Pt.locs, Pt.cells, Pt.slots] at X' l1 y1 z1 st N K q hS2 hg2 hCC
  subst l1 y1 z1
  obtain ⟨⟨k0, hS, hk⟩, hC⟩ := A.wide
  obtain ⟨X2, hS3, hZ3, ho3⟩ := rebS hS (A.2.1 ▸ hk) X' hS2 hg2 A.hZ A.2.2.2.1
  exact (k v T'.vm T' T'.heap L' ⟨X2, rfl, hZ3, ho3, A.2.2.2.2.1, A.2.2.2.2.2.1, A.2.2.2.2.2.2.1, A.2.2.2.2.2.2.2.1.app N, A.old.keep K hn, Or.inr ⟨rfl, ⟨_, hS3, Nat.le_refl _⟩, hC.trans hCC⟩⟩ K hCC q).gos st
theorem f_callVW (A : WS p l e R s m args below meth c Z EL n0 own code ml true vm T h locs cells slots) {i : Nat} {y z : MethodName} {C : String} {a : Addr} {wr : List Addr} {Q : Option Value → Heap → Prop} {kc ks : Nat} (hd : decode code pc = .ok (.invokevirtual i, 3)) (hp : pc + 3 = pc') (w1 : (Cond.methodLink own i y).before a0 Z = true) (w2 : (Cond.declares y).before a0 Z = true) (hnf : NotFace (s.setVm vm) y) (w3 : (Cond.selects C y z).before a0 Z = true) (w4 : (Cond.instanceMethod z).before a0 Z = true) (hy : y.cls ≠ "java/lang/invoke/MethodHandle" ∧ y.cls ≠ "java/lang/invoke/VarHandle") (E : Exa Z h a C)
    {ps : List FieldType} {r : Option FieldType} (pd : parseMethodDescriptor y.desc = some ⟨ps, r⟩) (argsL rest : List Value) (hal : argsL.length = ps.length) (hS : S = argsL.reverse ++ .ref a :: rest) (hml : L.size = ml) (W : Nat) (hW : (rest.map fun v => v.category).sum ≤ W) (hK : BkS l R p e below (s.setVm vm) args z 3 W (.ref a :: argsL).toArray h n0 wr Q kc ks Z EL vm) (hc : cells + kc ≤ R.cells) (hs : slots + ks ≤ R.slots) (hn : ∀ x ∈ wr, n0 ≤ x)
    (k : ∀ (v : Option Value) (vm' : Vm) (T' : State) (h' : Heap) (L' : List Loc), WS p l e R s m args below meth c Z EL n0 own code ml true vm' T' h' (locs ++ L') (cells + kc) (slots + ks) → Keep h h' wr → CHr Z EL vm h vm' h' → Q v h' → Wp p e below P T' (mkF m pc' L (v.toList ++ rest))) : Wp p e below P T (mkF m pc L S) := by
  subst hp hS
  obtain ⟨cq, kq, qa, qb, qc⟩ := isOf A.hZ A.2.1 E
  obtain ⟨v, _, ⟨T', L1, k1, n1⟩, -, X', hS2, hg2, ⟨L', ⟨N, K, q⟩, l1, y1, z1, hCC⟩, st⟩ := A.1.virtualBackS A.2.2.2.2.1 (y := y) (z := z) A.2.2.2.1 (mvT A.hZ w1) (mvT A.hZ w2) hnf (mvT A.hZ w3) (mvT A.hZ w4) hy hK qa qc (g := mkF m pc L (argsL.reverse ++ .ref a :: rest)) rfl (hml.trans A.2.2.2.2.2.2.1.symm) (Steps.refl _) (argsL := argsL) (rest := rest) (lenOf pd hal) rfl (by show 2 * 0 + _ ≤ _; omega) (hb A.2.2.2.2.2.1 hd) (fun _ _ => ⟨rfl, A.2.1, hc, hs⟩)
  dsimp only [Pt.U, Pt.locs, Pt.cells, Pt.slots] at X' l1 y1 z1 st N K q hS2 hg2 hCC
  subst l1 y1 z1
  obtain ⟨⟨k0, hS, hk⟩, hC⟩ := A.wide
  obtain ⟨X2, hS3, hZ3, ho3⟩ := rebS hS (A.2.1 ▸ hk) X' hS2 hg2 A.hZ A.2.2.2.1
  exact (k v T'.vm T' T'.heap L' ⟨X2, rfl, hZ3, ho3, A.2.2.2.2.1, A.2.2.2.2.2.1, A.2.2.2.2.2.2.1, A.2.2.2.2.2.2.2.1.app N, A.old.keep K hn, Or.inr ⟨rfl, ⟨_, hS3, Nat.le_refl _⟩, hC.trans hCC⟩⟩ K hCC q).gos st
/-- the payer, of a contract that may intern -/
theorem CW.pay {y : MethodName} {bytes : ByteArray} {maxL : Nat} {ret : Option FieldType} {rm : Room} {as' : Array Value} {wr SL : List Addr} {Q : Option Value → Heap → Prop} {len W : Nat} (A : WS p l e R s m args below meth c Z EL n0 own code ml true vm T h locs cells slots) (hEL : EW Z a0 EL) (hM : CW l y bytes maxL ret [] rm Z EL SL n0 h as' wr Q) (wc : (Cond.code y bytes maxL ret).before a0 Z = true) (wz : (Cond.initialized y.cls).before a0 Z = true) (hf : rm.frames + 1 ≤ R.frames) (hl : W + (maxL + 11) + rm.locals ≤ R.locals) (hSL : ∀ x ∈ SL, x < h.size ∧ Safe Z EL vm h x) :
    BkS l R p e below (s.setVm vm) args y len W as' h n0 wr Q rm.cells rm.slots Z EL vm :=
  have H := A.wide.2.1
  BackS.of_freeW (bytes := bytes) (maxL := maxL) (ret := ret) (E := fun _ first o t L k n => k = rm.cells ∧ n = rm.slots ∧ (∃ v, o = .returned v ∧ (Fr n0 L ∧ Keep h t.heap wr ∧ Q v t.heap)) ∧ CHr Z EL first.vm first.heap t.vm t.heap) hM hf hl
    (fun m meth c B a Y hp => have hU : Z.Warmed39 B.U.vm := wtrans (s := s.setVm vm) A.hZ Y.warmed
      ⟨by show (Cond.and _ .tt).before a B.U = true; rw [Cond.before_and, mv hU wc]; rfl, mv hU wc, mv hU wz, hp.2.2.1, hp.2.2.2⟩)
    (fun m meth c B a g mk Y hp => ⟨hp.1, wtrans (s := s.setVm vm) A.hZ Y.warmed, hp.2.1, (CHv.at Y A.hZ hEL H).1, fun x hx => (CHv.at Y A.hZ hEL H).safe (hSL x hx).1 (hSL x hx).2⟩) (fun _ _ _ _ _ _ _ _ _ => trivial)
    (fun _ _ _ _ ⟨v, L, h1, h2, h3, h4⟩ => ⟨L, _, _, h4, rfl, rfl, ⟨v, h1, h2⟩, h3⟩)
    (fun m meth c B a g mk v t L k n Y hp _ _ ⟨e1, e2, ⟨v', e3, e4⟩, e5⟩ => by
      cases e3; subst e1 e2
      refine ⟨L, e4, rfl, rfl, rfl, (CHv.at Y A.hZ hEL H).trans ?_⟩
      rw [← hp.2.1]; exact e5)
end OwnKit
end Jvm.Pilot.@@N@@
/- laws to paste: Road.backV, Road.lenW, Road.chN, Road.eqW, Road.codOf (cut by pick.py; bodies as the Statement names them) -/
namespace Jvm.Pilot.@@N@@
namespace StrChars
open Jvm Sem ClassFile Op Lib Jvm.Stand Jvm.Free.XT Jvm.Free.ALB Jvm.Free.JM Jvm.Free
open Jvm.Lib.Cold (StaticIs)
/-- a char array whose places are chars -/
def Ch (a : Addr) (A : Cell) (U : State) : Prop := Arr .char a A U ∧ Typed .char A
theorem Ch.mv {a : Addr} {A : Cell} {U U' : State} (h : Ch a A U) (hal : U.vm.Alike U'.vm) (hh : U'.heap = U.heap) : Ch a A U' := ⟨h.1.mv hal hh, h.2⟩
theorem Ch.keep {a : Addr} {A : Cell} {U U' : State} (h : Ch a A U) (hal : U.vm.Alike U'.vm) (hk : U'.heap[a]? = some A) : Ch a A U' := ⟨h.1.keep hal hk, h.2⟩
/-- what place i of a char[]'s cell holds -/
def cv (A : Cell) (i : Nat) : Int32 := match A.slots[i]? with | some (.int x) => x | _ => 0
theorem Ch.get {a : Addr} {A : Cell} {U : State} (h : Ch a A U) {i : Nat} (hi : i < A.slots.size) : A.slots[i]? = some (.int (cv A i)) := by
  have e := Array.getElem?_eq_getElem hi
  have f := h.2 i _ e
  unfold cv; rw [e]
  generalize A.slots[i] = v at f
  cases v <;> simp [fits] at f ⊢
/-- the byte that i2b leaves of a char -/
def lo8 (x : Int32) : Int32 := x.toInt8.toInt32
theorem fits_lo8 (y : Int32) : fits .byte (.int (lo8 y)) = true := by
  have h1 := y.toInt8.le_toInt
  have h2 := y.toInt8.toInt_lt
  simp only [lo8, fits, Bool.and_eq_true, decide_eq_true_eq, Int32.le_iff_toInt_le, Int8.toInt_toInt32, show (-128 : Int32).toInt = -128 from by decide, show (127 : Int32).toInt = 127 from by decide]
  omega
/-- A' is A but that each place j of lo .. hi - 1 holds f j -/
def Laid (A A' : Cell) (lo hi : Nat) (f : Nat → Value) : Prop := A'.cls = A.cls ∧ A'.vm = A.vm ∧ A'.slots.size = A.slots.size ∧ ∀ i, A'.slots[i]? = if lo ≤ i ∧ i < hi then some (f i) else A.slots[i]?
theorem Laid.zero (A : Cell) (lo : Nat) (f : Nat → Value) : Laid A A lo (lo + 0) f := ⟨rfl, rfl, rfl, fun i => by rw [if_neg (by omega)]⟩
theorem Laid.step {A Ak : Cell} {lo k : Nat} {f : Nat → Value} {v : Value} (h : Laid A Ak lo k f) (hlo : lo ≤ k) (hk : k < Ak.slots.size) (hv : v = f k) : Laid A (Ak.setSlot k v) lo (k + 1) f := by
  refine ⟨h.1, h.2.1, by simpa [Cell.setSlot] using h.2.2.1, fun i => ?_⟩
  by_cases e : k = i
  · subst e; rw [Cell.slots_setSlot_self v hk, if_pos (by omega), hv]
  · rw [Cell.slots_setSlot_ne v e, h.2.2.2 i]
    by_cases q : lo ≤ i ∧ i < k
    · rw [if_pos q, if_pos (by omega)]
    · rw [if_neg q, if_neg (by omega)]
def U16 : String := "java/lang/StringUTF16"
namespace Cmp5
def yN : MethodName := ⟨"java/lang/StringUTF16", "compress", "([CI[BII)I"⟩
abbrev yB : ByteArray := jdk_52_method_21_code
theorem d0 : decode yB 0 = .ok (.iconst 0, 1) := by decide +kernel
theorem d1 : decode yB 1 = .ok (.istore 5, 2) := by decide +kernel
theorem d3 : decode yB 3 = .ok (.iload 5, 2) := by decide +kernel
theorem d5 : decode yB 5 = .ok (.iload 4, 2) := by decide +kernel
theorem d7 : decode yB 7 = .ok (.if_icmp (.ge) 37, 3) := by decide +kernel
theorem d10 : decode yB 10 = .ok (.aload_n 0, 1) := by decide +kernel
theorem d11 : decode yB 11 = .ok (.iload_n 1, 1) := by decide +kernel
theorem d12 : decode yB 12 = .ok (.caload, 1) := by decide +kernel
theorem d13 : decode yB 13 = .ok (.istore 6, 2) := by decide +kernel
theorem d15 : decode yB 15 = .ok (.iload 6, 2) := by decide +kernel
theorem d17 : decode yB 17 = .ok (.sipush 255, 3) := by decide +kernel
theorem d20 : decode yB 20 = .ok (.if_icmp (.le) 6, 3) := by decide +kernel
theorem d26 : decode yB 26 = .ok (.aload_n 2, 1) := by decide +kernel
theorem d27 : decode yB 27 = .ok (.iload_n 3, 1) := by decide +kernel
theorem d28 : decode yB 28 = .ok (.iload 6, 2) := by decide +kernel
theorem d30 : decode yB 30 = .ok (.i2b, 1) := by decide +kernel
theorem d31 : decode yB 31 = .ok (.bastore, 1) := by decide +kernel
theorem d32 : decode yB 32 = .ok (.iinc 1 1, 3) := by decide +kernel
theorem d35 : decode yB 35 = .ok (.iinc 3 1, 3) := by decide +kernel
theorem d38 : decode yB 38 = .ok (.iinc 5 1, 3) := by decide +kernel
theorem d41 : decode yB 41 = .ok (.goto (-38), 3) := by decide +kernel
theorem d44 : decode yB 44 = .ok (.iload 4, 2) := by decide +kernel
theorem d46 : decode yB 46 = .ok (.ireturn, 1) := by decide +kernel
def site : List Cond := []
def tab : Cond := tabOf yN yB 7 (some .int) site
def P (b : Addr) (A : Cell) (d : Addr) (B : Cell) (o q len : Nat) (args : Array Value) (s : State) : Prop := args = #[.ref b, .int (Int32.ofNat o), .ref d, .int (Int32.ofNat q), .int (Int32.ofNat len)] ∧ Ch b A s ∧ Arr .byte d B s ∧ b ≠ d ∧ o + len ≤ A.slots.size ∧ q + len ≤ B.slots.size ∧ ∀ i, i < len → ¬ 255 < cv A (o + i)
def E (b : Addr) (A : Cell) (d : Addr) (B : Cell) (o q len : Nat) (r : Option Value) (s u : State) : Prop := r = some (.int (Int32.ofNat len)) ∧ ∃ B', Put d B' s u ∧ Laid B B' q (q + len) (fun j => Value.int (lo8 (cv A (o + (j - q)))))
/-- no char of the range above 255: len; the places written hold each char's low byte -/
theorem law (l : Launch) (b : Addr) (A : Cell) (d : Addr) (B : Cell) (o q len : Nat) : Law l yN 5 5 0 0 yB 7 (some .int) site (P b A d B o q len) (E b A d B o q len) (copyLocs d q len) 0 0 := by
  refine Law.of_walk (plainFor_of_name (by decide +kernel)) (by decide +kernel) (by decide +kernel) (by decide) (fun _ _ h => by rw [h.1]; rfl) (fun _ U U' hal hh h => ⟨h.1, h.2.1.mv hal hh, h.2.2.1.mv hal hh, h.2.2.2⟩) (fun r U U' V V' h1 hal h2 h => ⟨h.1, h.2.elim fun B' q => ⟨B', q.1.mv h1 h2, q.2⟩⟩) ?_
  intro p e s m args below meth c s₁ X0 hexec hbytes hml hret hlk hnm hown hh0 W hP
  obtain ⟨rfl, hA, hB, hne, l1, l2, hp⟩ := hP
  have c1 : Steps p.tables e below (s₁.setTop (entryFrame m #[.ref b, .int (Int32.ofNat o), .ref d, .int (Int32.ofNat q), .int (Int32.ofNat len)] 7)) (s₁.setTop (mkF m 0 #[.val (.ref b), .val (.int (Int32.ofNat o)), .val (.ref d), .val (.int (Int32.ofNat q)), .val (.int (Int32.ofNat len)), .unset, .unset] [])) := entry rfl
  have hA0 := hA.1.mv X0.warmed.alike hh0
  have hB0 := hB.mv X0.warmed.alike hh0
  have a31 := hA.1.2.2.2
  have c2 : Steps p.tables e below (s₁.setTop (entryFrame m #[.ref b, .int (Int32.ofNat o), .ref d, .int (Int32.ofNat q), .int (Int32.ofNat len)] 7)) (s₁.setTop (mkF m 3 #[.val (.ref b), .val (.int (Int32.ofNat o)), .val (.ref d), .val (.int (Int32.ofNat q)), .val (.int (Int32.ofNat len)), .val (.int 0), .unset] [])) := c1.trans (by
    refine iconstV X0.here hexec rfl 0 (hb hbytes d0) (by decide) ?_
    refine XS.istore X0.here hexec rfl (hb hbytes d1) rfl rfl ?_
    exact Steps.refl _)
  have loop : ∀ (r i : Nat), i + r = len → ∀ (z : Slot), (z = .unset ∨ ∃ w, z = .val w ∧ w.category = 1) → ∀ (Tl : State) (Bk : Cell), Stand p l e { frames := 0, locals := 0, cells := 0, slots := 0 } s m #[.ref b, .int (Int32.ofNat o), .ref d, .int (Int32.ofNat q), .int (Int32.ofNat len)] below meth c Tl ([] ++ copyLocs d q i) 0 0 → Put d Bk s₁ Tl → Laid B Bk q (q + i) (fun j => Value.int (lo8 (cv A (o + (j - q))))) →
      Steps p.tables e below (s₁.setTop (entryFrame m #[.ref b, .int (Int32.ofNat o), .ref d, .int (Int32.ofNat q), .int (Int32.ofNat len)] 7)) (Tl.setTop (mkF m 3 #[.val (.ref b), .val (.int (Int32.ofNat (o + i))), .val (.ref d), .val (.int (Int32.ofNat (q + i))), .val (.int (Int32.ofNat len)), .val (.int (Int32.ofNat i)), z] [])) → ∃ (T' : State) (B' : Cell) (z' : Slot), Stand p l e { frames := 0, locals := 0, cells := 0, slots := 0 } s m #[.ref b, .int (Int32.ofNat o), .ref d, .int (Int32.ofNat q), .int (Int32.ofNat len)] below meth c T' ([] ++ copyLocs d q len) 0 0 ∧ Put d B' s₁ T' ∧ Laid B B' q (q + len) (fun j => Value.int (lo8 (cv A (o + (j - q))))) ∧
      Steps p.tables e below (s₁.setTop (entryFrame m #[.ref b, .int (Int32.ofNat o), .ref d, .int (Int32.ofNat q), .int (Int32.ofNat len)] 7)) (T'.setTop (mkF m 3 #[.val (.ref b), .val (.int (Int32.ofNat (o + len))), .val (.ref d), .val (.int (Int32.ofNat (q + len))), .val (.int (Int32.ofNat len)), .val (.int (Int32.ofNat len)), z'] [])) := by
    intro r
    induction r with
    | zero =>
      intro i hi z hz Tl Bk Xl pl fl cl
      have hil : i = len := by omega
      rw [hil] at Xl fl cl
      exact ⟨Tl, Bk, z, Xl, pl, fl, cl⟩
    | succ r ih =>
      intro i hi z hz Tl Bk Xl pl fl cl
      have all := X0.warmed.alike.symm.trans Xl.warmed.alike
      have hAl := hA0.keep all (pl.other hne hA0.1)
      have hBk := hB0.like all pl.1 fl.1 fl.2.1 fl.2.2.1
      have hlt : q + i < Bk.slots.size := by rw [fl.2.2.1]; omega
      have c3 : Steps p.tables e below (s₁.setTop (entryFrame m #[.ref b, .int (Int32.ofNat o), .ref d, .int (Int32.ofNat q), .int (Int32.ofNat len)] 7)) (Tl.setTop (mkF m 12 #[.val (.ref b), .val (.int (Int32.ofNat (o + i))), .val (.ref d), .val (.int (Int32.ofNat (q + i))), .val (.int (Int32.ofNat len)), .val (.int (Int32.ofNat i)), z] [.int (Int32.ofNat (o + i)), .ref b])) := cl.trans (by
        refine XS.iload Xl.here hexec rfl (hb hbytes d3) rfl ?_
        refine XS.iload Xl.here hexec rfl (hb hbytes d5) rfl ?_
        refine XS.icmpNo Xl.here hexec rfl (hb hbytes d7) rfl (ii_ge_f (lt32 (by omega) (by omega))) ?_
        refine XS.aloadN Xl.here hexec rfl (hb hbytes d10) rfl rfl ?_
        refine XS.iloadN Xl.here hexec rfl (hb hbytes d11) rfl ?_
        exact Steps.refl _)
      have c4 : Steps p.tables e below (s₁.setTop (entryFrame m #[.ref b, .int (Int32.ofNat o), .ref d, .int (Int32.ofNat q), .int (Int32.ofNat len)] 7)) (Tl.setTop (mkF m 13 #[.val (.ref b), .val (.int (Int32.ofNat (o + i))), .val (.ref d), .val (.int (Int32.ofNat (q + i))), .val (.int (Int32.ofNat len)), .val (.int (Int32.ofNat i)), z] [.int (cv A (o + i))])) := c3.trans (by
        refine Xl.aget hexec hAl rfl (hA.get (i := o + i) (by omega)) rfl rfl (hb hbytes d12) ?_
        exact Steps.refl _)
      have c5 : Steps p.tables e below (s₁.setTop (entryFrame m #[.ref b, .int (Int32.ofNat o), .ref d, .int (Int32.ofNat q), .int (Int32.ofNat len)] 7)) (Tl.setTop (mkF m 15 #[.val (.ref b), .val (.int (Int32.ofNat (o + i))), .val (.ref d), .val (.int (Int32.ofNat (q + i))), .val (.int (Int32.ofNat len)), .val (.int (Int32.ofNat i)), .val (.int (cv A (o + i)))] [])) := c4.trans (by
        refine XS.istoreS Xl.here hexec rfl (hb hbytes d13) rfl rfl hz ?_
        exact Steps.refl _)
      have c6 : Steps p.tables e below (s₁.setTop (entryFrame m #[.ref b, .int (Int32.ofNat o), .ref d, .int (Int32.ofNat q), .int (Int32.ofNat len)] 7)) (Tl.setTop (mkF m 31 #[.val (.ref b), .val (.int (Int32.ofNat (o + i))), .val (.ref d), .val (.int (Int32.ofNat (q + i))), .val (.int (Int32.ofNat len)), .val (.int (Int32.ofNat i)), .val (.int (cv A (o + i)))] [.int (lo8 (cv A (o + i))), .int (Int32.ofNat (q + i)), .ref d])) := c5.trans (by
        refine XS.iload Xl.here hexec rfl (hb hbytes d15) rfl ?_
        refine sipushV Xl.here hexec rfl 255 (hb hbytes d17) (by decide) ?_
        refine XS.icmpYes Xl.here hexec rfl (pc0 := 20) rfl (hb hbytes d20) rfl (ii_le_t (hp i (by omega))) (by decide) rfl ?_
        refine XS.aloadN Xl.here hexec rfl (hb hbytes d26) rfl rfl ?_
        refine XS.iloadN Xl.here hexec rfl (hb hbytes d27) rfl ?_
        refine XS.iload Xl.here hexec rfl (hb hbytes d28) rfl ?_
        refine i2b Xl.here hexec rfl (hb hbytes d30) rfl ?_
        exact Steps.refl _)
      obtain ⟨T7, X7, p7, st7⟩ := Xl.aput hexec hBk rfl hlt rfl (fits_lo8 (cv A (o + i))) (g := (mkF m 31 #[.val (.ref b), .val (.int (Int32.ofNat (o + i))), .val (.ref d), .val (.int (Int32.ofNat (q + i))), .val (.int (Int32.ofNat len)), .val (.int (Int32.ofNat i)), .val (.int (cv A (o + i)))] [.int (lo8 (cv A (o + i))), .int (Int32.ofNat (q + i)), .ref d])) rfl (rest := []) rfl (hb hbytes d31)
      have c8 : Steps p.tables e below (s₁.setTop (entryFrame m #[.ref b, .int (Int32.ofNat o), .ref d, .int (Int32.ofNat q), .int (Int32.ofNat len)] 7)) (T7.setTop (mkF m 32 #[.val (.ref b), .val (.int (Int32.ofNat (o + i))), .val (.ref d), .val (.int (Int32.ofNat (q + i))), .val (.int (Int32.ofNat len)), .val (.int (Int32.ofNat i)), .val (.int (cv A (o + i)))] [])) := c6.trans (st7 _ (Steps.refl _))
      have c9 : Steps p.tables e below (s₁.setTop (entryFrame m #[.ref b, .int (Int32.ofNat o), .ref d, .int (Int32.ofNat q), .int (Int32.ofNat len)] 7)) (T7.setTop (mkF m 3 #[.val (.ref b), .val (.int (Int32.ofNat (o + i) + 1)), .val (.ref d), .val (.int (Int32.ofNat (q + i) + 1)), .val (.int (Int32.ofNat len)), .val (.int (Int32.ofNat i + 1)), .val (.int (cv A (o + i)))] [])) := c8.trans (by
        refine iincV X7.here hexec rfl 1 (hb hbytes d32) (by decide) rfl rfl ?_
        refine iincV X7.here hexec rfl 1 (hb hbytes d35) (by decide) rfl rfl ?_
        refine iincV X7.here hexec rfl 1 (hb hbytes d38) (by decide) rfl rfl ?_
        refine XS.goto X7.here hexec rfl (pc0 := 41) rfl (hb hbytes d41) (by decide) rfl ?_
        exact Steps.refl _)
      have c10 : Steps p.tables e below (s₁.setTop (entryFrame m #[.ref b, .int (Int32.ofNat o), .ref d, .int (Int32.ofNat q), .int (Int32.ofNat len)] 7)) (T7.setTop (mkF m 3 #[.val (.ref b), .val (.int (Int32.ofNat (o + (i + 1)))), .val (.ref d), .val (.int (Int32.ofNat (q + (i + 1)))), .val (.int (Int32.ofNat len)), .val (.int (Int32.ofNat (i + 1))), .val (.int (cv A (o + i)))] [])) := by
        have := c9
        rw [succ32, succ32, succ32] at this
        exact this
      exact ih (i + 1) (by omega) _ (Or.inr ⟨_, rfl, rfl⟩) T7 _ (by rw [copyLocs_step, ← List.append_assoc]; exact X7) (pl.trans p7) (fl.step (by omega) hlt (by simp)) c10
  obtain ⟨T9, B9, z9, X9, p9, f9, g9⟩ := loop len 0 (by omega) .unset (Or.inl rfl) s₁ B (by simpa [copyLocs] using X0) ⟨hB0.1, fun _ _ => rfl, rfl⟩ (Laid.zero _ _ _) c2
  have c11 : Steps p.tables e below (s₁.setTop (entryFrame m #[.ref b, .int (Int32.ofNat o), .ref d, .int (Int32.ofNat q), .int (Int32.ofNat len)] 7)) (T9.setTop (mkF m 46 #[.val (.ref b), .val (.int (Int32.ofNat (o + len))), .val (.ref d), .val (.int (Int32.ofNat (q + len))), .val (.int (Int32.ofNat len)), .val (.int (Int32.ofNat len)), z9] [.int (Int32.ofNat len)])) := g9.trans (by
    refine XS.iload X9.here hexec rfl (hb hbytes d3) rfl ?_
    refine XS.iload X9.here hexec rfl (hb hbytes d5) rfl ?_
    refine XS.icmpYes X9.here hexec rfl (pc0 := 7) rfl (hb hbytes d7) rfl (ii_ge_t (nlt32 (by omega) (Nat.le_refl _))) (by decide) rfl ?_
    refine XS.iload X9.here hexec rfl (hb hbytes d44) rfl ?_
    exact Steps.refl _)
  exact ⟨T9, some (.int (Int32.ofNat len)), _, _, _, X9, by simp, rfl, rfl, (fun h => by cases h), ⟨rfl, B9, p9.from hh0, f9⟩, fun fs hl => c11.trans (X9.ireturnOut hexec hret rfl (Or.inl rfl) (hb hbytes d46) hl)⟩
end Cmp5
namespace Cmp3
def yN : MethodName := ⟨"java/lang/StringUTF16", "compress", "([CII)[B"⟩
abbrev yB : ByteArray := jdk_52_method_16_code
theorem d0 : decode yB 0 = .ok (.iload_n 2, 1) := by decide +kernel
theorem d1 : decode yB 1 = .ok (.newarray .byte, 2) := by decide +kernel
theorem d3 : decode yB 3 = .ok (.astore_n 3, 1) := by decide +kernel
theorem d4 : decode yB 4 = .ok (.aload_n 0, 1) := by decide +kernel
theorem d5 : decode yB 5 = .ok (.iload_n 1, 1) := by decide +kernel
theorem d6 : decode yB 6 = .ok (.aload_n 3, 1) := by decide +kernel
theorem d7 : decode yB 7 = .ok (.iconst 0, 1) := by decide +kernel
theorem d8 : decode yB 8 = .ok (.iload_n 2, 1) := by decide +kernel
theorem d9 : decode yB 9 = .ok (.invokestatic 115, 3) := by decide +kernel
theorem d12 : decode yB 12 = .ok (.istore 4, 2) := by decide +kernel
theorem d14 : decode yB 14 = .ok (.iload 4, 2) := by decide +kernel
theorem d16 : decode yB 16 = .ok (.iload_n 2, 1) := by decide +kernel
theorem d17 : decode yB 17 = .ok (.if_icmp (.eq) 40, 3) := by decide +kernel
theorem d57 : decode yB 57 = .ok (.aload_n 3, 1) := by decide +kernel
theorem d58 : decode yB 58 = .ok (.areturn, 1) := by decide +kernel
def site : List Cond := [.arrayClass .byte, Cmp5.tab] ++ staticW U16 115 Cmp5.yN
def tab : Cond := tabOf yN yB 6 (some (.array .byte)) site
def P (b : Addr) (A : Cell) (o len : Nat) (args : Array Value) (s : State) : Prop := args = #[.ref b, .int (Int32.ofNat o), .int (Int32.ofNat len)] ∧ Ch b A s ∧ o + len ≤ A.slots.size ∧ len ≤ 536870912 ∧ ∀ i, i < len → ¬ 255 < cv A (o + i)
def E (b : Addr) (A : Cell) (o len : Nat) (r : Option Value) (s u : State) : Prop := NewArr .byte "[B" len (fun j => .int (lo8 (cv A (o + j)))) r s u ∧ u.heap.size = s.heap.size + 1
/-- no char of the range above 255: a new byte[] of their low bytes -/
theorem law (l : Launch) (b : Addr) (A : Cell) (o len : Nat) : Law l yN 3 3 1 18 yB 6 (some (.array .byte)) site (P b A o len) (E b A o len) [] 1 len := by
  refine Law.of_walk (plainFor_of_name (by decide +kernel)) (by decide +kernel) (by decide +kernel) (by decide) (fun _ _ h => by rw [h.1]; rfl) (fun _ U U' hal hh h => ⟨h.1, h.2.1.mv hal hh, h.2.2⟩) (fun r U U' V V' h1 hal h2 h => ⟨NewArr.mv r U U' V V' h1 hal h2 h.1, by rw [h1, h2]; exact h.2⟩) ?_
  intro p e s m args below meth c s₁ X0 hexec hbytes hml hret hlk hnm hown hh0 W hP
  obtain ⟨rfl, hA, l1, l2, hp⟩ := hP
  have a31 := hA.1.2.2.2
  have c1 : Steps p.tables e below (s₁.setTop (entryFrame m #[.ref b, .int (Int32.ofNat o), .int (Int32.ofNat len)] 6)) (s₁.setTop (mkF m 0 #[.val (.ref b), .val (.int (Int32.ofNat o)), .val (.int (Int32.ofNat len)), .unset, .unset, .unset] [])) := entry rfl
  have c2 : Steps p.tables e below (s₁.setTop (entryFrame m #[.ref b, .int (Int32.ofNat o), .int (Int32.ofNat len)] 6)) (s₁.setTop (mkF m 1 #[.val (.ref b), .val (.int (Int32.ofNat o)), .val (.int (Int32.ofNat len)), .unset, .unset, .unset] [.int (Int32.ofNat len)])) := c1.trans (by
    refine XS.iloadN X0.here hexec rfl (hb hbytes d0) rfl ?_
    exact Steps.refl _)
  obtain ⟨T3, B3, X3, ba3, bs3, bv3, bh3, bf3, st3⟩ := X0.anew hexec (atype := .byte) (wk W (.arrayClass .byte)) rfl (by show len * 1 ≤ _; omega) (by omega) (g := (mkF m 1 #[.val (.ref b), .val (.int (Int32.ofNat o)), .val (.int (Int32.ofNat len)), .unset, .unset, .unset] [.int (Int32.ofNat len)])) rfl (hb hbytes d1) (rest := []) rfl (Nat.le_refl _) (by show 0 + len ≤ len; omega)
  rw [hh0] at ba3 st3
  have kp3 : XT.Kept s T3 := (XT.Kept.of_eq hh0).push bh3
  have hA3 := hA.keep X3.warmed.alike (kp3 _ _ hA.1.1)
  have hne : b ≠ s.heap.size := hA.1.ne
  have c4 : Steps p.tables e below (s₁.setTop (entryFrame m #[.ref b, .int (Int32.ofNat o), .int (Int32.ofNat len)] 6)) (T3.setTop (mkF m 3 #[.val (.ref b), .val (.int (Int32.ofNat o)), .val (.int (Int32.ofNat len)), .unset, .unset, .unset] [.ref s.heap.size])) := c2.trans (st3 _ (Steps.refl _))
  have c5 : Steps p.tables e below (s₁.setTop (entryFrame m #[.ref b, .int (Int32.ofNat o), .int (Int32.ofNat len)] 6)) (T3.setTop (mkF m 9 #[.val (.ref b), .val (.int (Int32.ofNat o)), .val (.int (Int32.ofNat len)), .val (.ref s.heap.size), .unset, .unset] [.int (Int32.ofNat len), .int 0, .ref s.heap.size, .int (Int32.ofNat o), .ref b])) := c4.trans (by
    refine XS.astoreN X3.here hexec rfl (hb hbytes d3) rfl rfl rfl ?_
    refine XS.aloadN X3.here hexec rfl (hb hbytes d4) rfl rfl ?_
    refine XS.iloadN X3.here hexec rfl (hb hbytes d5) rfl ?_
    refine XS.aloadN X3.here hexec rfl (hb hbytes d6) rfl rfl ?_
    refine iconstV X3.here hexec rfl 0 (hb hbytes d7) (by decide) ?_
    refine XS.iloadN X3.here hexec rfl (hb hbytes d8) rfl ?_
    exact Steps.refl _)
  obtain ⟨v6, T6, X6, E6, g6⟩ := X3.callS hexec (Cmp5.law l b A s.heap.size B3 o 0 len) hown (wks W (staticW U16 115 Cmp5.yN)) (wk W Cmp5.tab) (W := 0) (Nat.le_of_ble_eq_true rfl) (Nat.le_of_ble_eq_true rfl) (Nat.le_refl _) (by show 0 + len + 0 ≤ len; omega) (g := (mkF m 9 #[.val (.ref b), .val (.int (Int32.ofNat o)), .val (.int (Int32.ofNat len)), .val (.ref s.heap.size), .unset, .unset] [.int (Int32.ofNat len), .int (Int32.ofNat 0), .ref s.heap.size, .int (Int32.ofNat o), .ref b])) rfl (by rw [hml]; rfl) c5 (argsL := [.ref b, .int (Int32.ofNat o), .ref s.heap.size, .int (Int32.ofNat 0), .int (Int32.ofNat len)]) (rest := []) rfl rfl (by show 2 * 0 + 0 ≤ _; decide) (hb hbytes d9) (⟨rfl, hA3, ba3, hne, l1, by rw [bs3]; simp, hp⟩)
  obtain ⟨rfl, B6, p6, f6⟩ := E6
  have c7 : Steps p.tables e below (s₁.setTop (entryFrame m #[.ref b, .int (Int32.ofNat o), .int (Int32.ofNat len)] 6)) (T6.setTop (mkF m 12 #[.val (.ref b), .val (.int (Int32.ofNat o)), .val (.int (Int32.ofNat len)), .val (.ref s.heap.size), .unset, .unset] [.int (Int32.ofNat len)])) := g6
  have c8 : Steps p.tables e below (s₁.setTop (entryFrame m #[.ref b, .int (Int32.ofNat o), .int (Int32.ofNat len)] 6)) (T6.setTop (mkF m 58 #[.val (.ref b), .val (.int (Int32.ofNat o)), .val (.int (Int32.ofNat len)), .val (.ref s.heap.size), .val (.int (Int32.ofNat len)), .unset] [.ref s.heap.size])) := c7.trans (by
    refine XS.istore X6.here hexec rfl (hb hbytes d12) rfl rfl ?_
    refine XS.iload X6.here hexec rfl (hb hbytes d14) rfl ?_
    refine XS.iloadN X6.here hexec rfl (hb hbytes d16) rfl ?_
    refine XS.icmpYes X6.here hexec rfl (pc0 := 17) rfl (hb hbytes d17) rfl (ii_eq_t rfl) (by decide) rfl ?_
    refine XS.aloadN X6.here hexec rfl (hb hbytes d57) rfl rfl ?_
    exact Steps.refl _)
  have X8 := X6.wide (L' := []) (cells' := 1) (slots' := len) (fun x hx hlt => by
    simp only [List.nil_append, copyLocs, List.mem_map, List.mem_range] at hx
    obtain ⟨i, -, rfl⟩ := hx
    exact absurd hlt (Nat.lt_irrefl _)) (Nat.le_refl _) (by omega)
  exact ⟨T6, some (.ref s.heap.size), _, _, _, X8, rfl, rfl, rfl, (fun h => by cases h), ⟨⟨rfl, B6, ba3.like (X3.warmed.alike.symm.trans X6.warmed.alike) p6.1 f6.1 f6.2.1 f6.2.2.1, f6.2.1.trans bv3, by rw [X6.warmed.alike.findClass, f6.1]; exact bf3, by rw [f6.2.2.1, bs3]; simp, fun j hj => by rw [f6.2.2.2 j, if_pos (by omega)]; rfl, kp3.put p6 (Nat.le_refl _)⟩, by rw [p6.2.2, bh3, hh0]; simp⟩, fun fs hl => c8.trans (X8.areturnOut hexec rfl hret rfl (hb hbytes d58) hl)⟩
end Cmp3
namespace CodL
def yN : MethodName := ⟨"java/lang/StringUTF16", "coderFromArrayLen", "([BI)B"⟩
abbrev yB : ByteArray := jdk_52_method_15_code
theorem d0 : decode yB 0 = .ok (.iload_n 1, 1) := by decide +kernel
theorem d1 : decode yB 1 = .ok (.aload_n 0, 1) := by decide +kernel
theorem d2 : decode yB 2 = .ok (.arraylength, 1) := by decide +kernel
theorem d3 : decode yB 3 = .ok (.isub, 1) := by decide +kernel
theorem d4 : decode yB 4 = .ok (.bipush 31, 2) := by decide +kernel
theorem d6 : decode yB 6 = .ok (.iushr, 1) := by decide +kernel
theorem d7 : decode yB 7 = .ok (.i2b, 1) := by decide +kernel
theorem d8 : decode yB 8 = .ok (.ireturn, 1) := by decide +kernel
def site : List Cond := []
def tab : Cond := tabOf yN yB 2 (some .byte) site
def P (d : Addr) (B : Cell) (args : Array Value) (s : State) : Prop := args = #[.ref d, .int (Int32.ofNat B.slots.size)] ∧ Arr .byte d B s
def E (r : Option Value) (s u : State) : Prop := XT.PureE (some (.int 0)) r s u
/-- an array as long as the number of chars: LATIN1 -/
theorem law (l : Launch) (d : Addr) (B : Cell) : Law l yN 2 2 0 0 yB 2 (some .byte) site (P d B) E [] 0 0 := by
  refine Law.of_walk (plainFor_of_name (by decide +kernel)) (by decide +kernel) (by decide +kernel) (by decide) (fun _ _ h => by rw [h.1]; rfl) (fun _ U U' hal hh h => ⟨h.1, h.2.mv hal hh⟩) (fun r U U' V V' h1 hal h2 h => XT.PureE.mv r U U' V V' h1 hal h2 h) ?_
  intro p e s m args below meth c s₁ X0 hexec hbytes hml hret hlk hnm hown hh0 W hP
  obtain ⟨rfl, hB⟩ := hP
  have hB0 := hB.mv X0.warmed.alike hh0
  have c1 : Steps p.tables e below (s₁.setTop (entryFrame m #[.ref d, .int (Int32.ofNat B.slots.size)] 2)) (s₁.setTop (mkF m 0 #[.val (.ref d), .val (.int (Int32.ofNat B.slots.size))] [])) := entry rfl
  have c2 : Steps p.tables e below (s₁.setTop (entryFrame m #[.ref d, .int (Int32.ofNat B.slots.size)] 2)) (s₁.setTop (mkF m 2 #[.val (.ref d), .val (.int (Int32.ofNat B.slots.size))] [.ref d, .int (Int32.ofNat B.slots.size)])) := c1.trans (by
    refine XS.iloadN X0.here hexec rfl (hb hbytes d0) rfl ?_
    refine XS.aloadN X0.here hexec rfl (hb hbytes d1) rfl rfl ?_
    exact Steps.refl _)
  have c3 : Steps p.tables e below (s₁.setTop (entryFrame m #[.ref d, .int (Int32.ofNat B.slots.size)] 2)) (s₁.setTop (mkF m 8 #[.val (.ref d), .val (.int (Int32.ofNat B.slots.size))] [.int (lo8 (ushr (Int32.ofNat B.slots.size - Int32.ofNat B.slots.size) 31))])) := c2.trans (by
    refine X0.alen hexec hB0 rfl rfl (hb hbytes d2) ?_
    refine XS.isub X0.here hexec rfl (hb hbytes d3) rfl ?_
    refine bipushV X0.here hexec rfl 31 (hb hbytes d4) (by decide) ?_
    refine iushr X0.here hexec rfl (hb hbytes d6) rfl ?_
    refine i2b X0.here hexec rfl (hb hbytes d7) rfl ?_
    exact Steps.refl _)
  have e0 : lo8 (ushr (Int32.ofNat B.slots.size - Int32.ofNat B.slots.size) 31) = 0 := by rw [Int32.sub_self]; decide
  rw [e0] at c3
  exact ⟨s₁, some (.int 0), _, _, _, X0, rfl, rfl, rfl, (fun h => by cases h), ⟨rfl, hh0⟩, fun fs hl => c3.trans (X0.ireturnOut hexec hret rfl (Or.inr (Or.inr (Or.inl rfl))) (hb hbytes d8) hl)⟩
end CodL
/-- the String at a is Latin-1 over a new byte[] (the heap's one new cell): the low bytes of the len chars of A from o on; every cell but a is kept -/
def Got (a : Addr) (D : Cell) (fV fC : Field) (A : Cell) (o len : Nat) (r : Option Value) (s u : State) : Prop := r = none ∧ ∃ D' V : Cell, Blank "java/lang/String" a D' u ∧ Same D D' [fV.slot, fC.slot] ∧ D'.slots[fV.slot]? = some (.ref s.heap.size) ∧ D'.slots[fC.slot]? = some (.int 0) ∧ Arr .byte s.heap.size V u ∧ V.vm = .none ∧ u.vm.findClass "[B" = some V.cls ∧ V.slots.size = len ∧ (∀ j, j < len → V.slots[j]? = some (.int (lo8 (cv A (o + j))))) ∧ (∀ (y : Addr) (c : Cell), y ≠ a → s.heap[y]? = some c → u.heap[y]? = some c) ∧ u.heap.size = s.heap.size + 1
theorem Got.mv {a : Addr} {D A : Cell} {fV fC : Field} {o len : Nat} : ∀ r (U U' V V' : State), U'.heap = U.heap → V.vm.Alike V'.vm → V'.heap = V.heap → Got a D fV fC A o len r U V → Got a D fV fC A o len r U' V' :=
  fun r U U' V V' h1 hal h2 ⟨e0, D', X, a1, a2, a3, a4, a5, a6, a7, a8, a9, a10, a11⟩ => ⟨e0, D', X, a1.mv hal h2, a2, by rw [h1]; exact a3, a4, by rw [h1]; exact a5.mv hal h2, a6, by rw [hal.findClass]; exact a7, a8, a9, by rw [h1, h2]; exact a10, by rw [h1, h2]; exact a11⟩
namespace New4
def yN : MethodName := ⟨"java/lang/String", "<init>", "([CIILjava/lang/Void;)V"⟩
abbrev yB : ByteArray := jdk_42_method_149_code
theorem d0 : decode yB 0 = .ok (.aload_n 0, 1) := by decide +kernel
theorem d1 : decode yB 1 = .ok (.invokespecial 1, 3) := by decide +kernel
theorem d4 : decode yB 4 = .ok (.iload_n 3, 1) := by decide +kernel
theorem d5 : decode yB 5 = .ok (.ifCond (.ne) 22, 3) := by decide +kernel
theorem d27 : decode yB 27 = .ok (.getstatic 38, 3) := by decide +kernel
theorem d30 : decode yB 30 = .ok (.ifCond (.eq) 28, 3) := by decide +kernel
theorem d33 : decode yB 33 = .ok (.aload_n 1, 1) := by decide +kernel
theorem d34 : decode yB 34 = .ok (.iload_n 2, 1) := by decide +kernel
theorem d35 : decode yB 35 = .ok (.iload_n 3, 1) := by decide +kernel
theorem d36 : decode yB 36 = .ok (.invokestatic 177, 3) := by decide +kernel
theorem d39 : decode yB 39 = .ok (.astore 5, 2) := by decide +kernel
theorem d41 : decode yB 41 = .ok (.aload_n 0, 1) := by decide +kernel
theorem d42 : decode yB 42 = .ok (.aload 5, 2) := by decide +kernel
theorem d44 : decode yB 44 = .ok (.iload_n 3, 1) := by decide +kernel
theorem d45 : decode yB 45 = .ok (.invokestatic 47, 3) := by decide +kernel
theorem d48 : decode yB 48 = .ok (.putfield 15, 3) := by decide +kernel
theorem d51 : decode yB 51 = .ok (.aload_n 0, 1) := by decide +kernel
theorem d52 : decode yB 52 = .ok (.aload 5, 2) := by decide +kernel
theorem d54 : decode yB 54 = .ok (.putfield 9, 3) := by decide +kernel
theorem d57 : decode yB 57 = .ok (.return_, 1) := by decide +kernel
def site : List Cond := [.fieldLink "java/lang/String" 38 "java/lang/String" "COMPACT_STRINGS" "Z", Cmp3.tab, CodL.tab, .laysFinal "java/lang/String" "java/lang/String" "value" "[B", .fieldLink "java/lang/String" 9 "java/lang/String" "value" "[B", .laysFinal "java/lang/String" "java/lang/String" "coder" "B", .fieldLink "java/lang/String" 15 "java/lang/String" "coder" "B"] ++ objW "java/lang/String" 1 ++ staticW "java/lang/String" 177 Cmp3.yN ++ staticW "java/lang/String" 47 CodL.yN
def tab : Cond := tabOf yN yB 6 none site
def P (a : Addr) (D : Cell) (fV fC : Field) (b : Addr) (A : Cell) (z : Int32) (o len : Nat) (args : Array Value) (s : State) : Prop := args = #[.ref a, .ref b, .int (Int32.ofNat o), .int (Int32.ofNat len), .null] ∧ Blank "java/lang/String" a D s ∧ Found "java/lang/String" "value" "[B" fV s ∧ Found "java/lang/String" "coder" "B" fC s ∧ Ch b A s ∧ StaticIs s "java/lang/String" "COMPACT_STRINGS" "Z" (.int z) ∧ ¬ z = 0 ∧ 0 < len ∧ o + len ≤ A.slots.size ∧ len ≤ 536870912 ∧ ∀ i, i < len → ¬ 255 < cv A (o + i)
def E (a : Addr) (D : Cell) (fV fC : Field) (A : Cell) (o len : Nat) (r : Option Value) (s u : State) : Prop := Got a D fV fC A o len r s u
/-- len > 0, no char of the range above 255: a Latin-1 String of their low bytes -/
theorem law (l : Launch) (a : Addr) (D : Cell) (fV fC : Field) (b : Addr) (A : Cell) (z : Int32) (o len : Nat) : Law l yN 5 4 2 35 yB 6 none site (P a D fV fC b A z o len) (E a D fV fC A o len) [⟨a, fC.slot⟩, ⟨a, fV.slot⟩] 1 len := by
  refine Law.of_walk (plainFor_of_name (by decide +kernel)) (by decide +kernel) (by decide +kernel) (by decide) (fun _ _ h => by rw [h.1]; rfl) (fun _ U U' hal hh h => ⟨h.1, h.2.1.mv hal hh, h.2.2.1.al hal, h.2.2.2.1.al hal, h.2.2.2.2.1.mv hal hh, h.2.2.2.2.2.1.there hal hh, h.2.2.2.2.2.2⟩) (fun r U U' V V' h1 hal h2 h => Got.mv r U U' V V' h1 hal h2 h) ?_
  intro p e s m args below meth c s₁ X0 hexec hbytes hml hret hlk hnm hown hh0 W hP
  obtain ⟨rfl, hB, f1, f2, hA, s1, hz, l0, l1, l2, hp⟩ := hP
  have a31 := hA.1.2.2.2
  have c1 : Steps p.tables e below (s₁.setTop (entryFrame m #[.ref a, .ref b, .int (Int32.ofNat o), .int (Int32.ofNat len), .null] 6)) (s₁.setTop (mkF m 0 #[.val (.ref a), .val (.ref b), .val (.int (Int32.ofNat o)), .val (.int (Int32.ofNat len)), .val .null, .unset] [])) := entry rfl
  have c2 : Steps p.tables e below (s₁.setTop (entryFrame m #[.ref a, .ref b, .int (Int32.ofNat o), .int (Int32.ofNat len), .null] 6)) (s₁.setTop (mkF m 1 #[.val (.ref a), .val (.ref b), .val (.int (Int32.ofNat o)), .val (.int (Int32.ofNat len)), .val .null, .unset] [.ref a])) := c1.trans (by
    refine XS.aloadN X0.here hexec rfl (hb hbytes d0) rfl rfl ?_
    exact Steps.refl _)
  obtain ⟨T3, X3, q3, st3⟩ := X0.oinit hexec hown (wks W (objW "java/lang/String" 1)) (g := (mkF m 1 #[.val (.ref a), .val (.ref b), .val (.int (Int32.ofNat o)), .val (.int (Int32.ofNat len)), .val .null, .unset] [.ref a])) rfl (by rw [hml]; rfl) (rest := []) rfl (hb hbytes d1) (W := 0) (by show 2 * 0 + 0 ≤ _; decide) (Nat.le_of_ble_eq_true rfl) (Nat.le_of_ble_eq_true rfl)
  have hh3 := q3.trans hh0
  have c4 : Steps p.tables e below (s₁.setTop (entryFrame m #[.ref a, .ref b, .int (Int32.ofNat o), .int (Int32.ofNat len), .null] 6)) (T3.setTop (mkF m 27 #[.val (.ref a), .val (.ref b), .val (.int (Int32.ofNat o)), .val (.int (Int32.ofNat len)), .val .null, .unset] [])) := (c2.trans (st3 _ (Steps.refl _))).trans (by
    refine XS.iloadN X3.here hexec rfl (hb hbytes d4) rfl ?_
    refine XS.ifYes X3.here hexec rfl (pc0 := 5) rfl (hb hbytes d5) rfl (i0_ne_t (nz32 (by omega) l0)) (by decide) rfl ?_
    exact Steps.refl _)
  obtain ⟨T5, X5, q5, st5⟩ := X3.sget hexec hown (wk W (.fieldLink "java/lang/String" 38 "java/lang/String" "COMPACT_STRINGS" "Z")) s1 (fun _ _ h => by rw [hh3]; exact h) (g := (mkF m 27 #[.val (.ref a), .val (.ref b), .val (.int (Int32.ofNat o)), .val (.int (Int32.ofNat len)), .val .null, .unset] [])) rfl (hb hbytes d27)
  have hh5 := q5.trans hh3
  have c6 : Steps p.tables e below (s₁.setTop (entryFrame m #[.ref a, .ref b, .int (Int32.ofNat o), .int (Int32.ofNat len), .null] 6)) (T5.setTop (mkF m 30 #[.val (.ref a), .val (.ref b), .val (.int (Int32.ofNat o)), .val (.int (Int32.ofNat len)), .val .null, .unset] [.int z])) := c4.trans (st5 _ (Steps.refl _))
  have c7 : Steps p.tables e below (s₁.setTop (entryFrame m #[.ref a, .ref b, .int (Int32.ofNat o), .int (Int32.ofNat len), .null] 6)) (T5.setTop (mkF m 36 #[.val (.ref a), .val (.ref b), .val (.int (Int32.ofNat o)), .val (.int (Int32.ofNat len)), .val .null, .unset] [.int (Int32.ofNat len), .int (Int32.ofNat o), .ref b])) := c6.trans (by
    refine XS.ifNo X5.here hexec rfl (hb hbytes d30) rfl (i0_eq_f hz) ?_
    refine XS.aloadN X5.here hexec rfl (hb hbytes d33) rfl rfl ?_
    refine XS.iloadN X5.here hexec rfl (hb hbytes d34) rfl ?_
    refine XS.iloadN X5.here hexec rfl (hb hbytes d35) rfl ?_
    exact Steps.refl _)
  obtain ⟨v8, T8, X8, E8, g8⟩ := X5.callS hexec (Cmp3.law l b A o len) hown (wks W (staticW "java/lang/String" 177 Cmp3.yN)) (wk W Cmp3.tab) (W := 0) (Nat.le_of_ble_eq_true rfl) (Nat.le_of_ble_eq_true rfl) (Nat.le_refl _) (by show 0 + len ≤ len; omega) (g := (mkF m 36 #[.val (.ref a), .val (.ref b), .val (.int (Int32.ofNat o)), .val (.int (Int32.ofNat len)), .val .null, .unset] [.int (Int32.ofNat len), .int (Int32.ofNat o), .ref b])) rfl (by rw [hml]; rfl) c7 (argsL := [.ref b, .int (Int32.ofNat o), .int (Int32.ofNat len)]) (rest := []) rfl rfl (by show 2 * 0 + 0 ≤ _; decide) (hb hbytes d36) (⟨rfl, hA.mv X5.warmed.alike hh5, l1, l2, hp⟩)
  obtain ⟨e8, z8⟩ := E8
  obtain ⟨rfl, N, n1, n2, n3, n4, n5, n6⟩ := NewArr.mv _ T5 s _ _ hh5.symm (Vm.Alike.refl _) rfl e8
  rw [hh5] at z8
  have hB1 := hB.keep X8.warmed.alike (n6 _ _ hB.1)
  have hne : s.heap.size ≠ a := (Nat.ne_of_lt (Array.getElem?_eq_some_iff.mp hB.1).1).symm
  have c9 : Steps p.tables e below (s₁.setTop (entryFrame m #[.ref a, .ref b, .int (Int32.ofNat o), .int (Int32.ofNat len), .null] 6)) (T8.setTop (mkF m 39 #[.val (.ref a), .val (.ref b), .val (.int (Int32.ofNat o)), .val (.int (Int32.ofNat len)), .val .null, .unset] [.ref s.heap.size])) := g8
  have c10 : Steps p.tables e below (s₁.setTop (entryFrame m #[.ref a, .ref b, .int (Int32.ofNat o), .int (Int32.ofNat len), .null] 6)) (T8.setTop (mkF m 45 #[.val (.ref a), .val (.ref b), .val (.int (Int32.ofNat o)), .val (.int (Int32.ofNat len)), .val .null, .val (.ref s.heap.size)] [.int (Int32.ofNat N.slots.size), .ref s.heap.size, .ref a])) := by
    have hc : Steps p.tables e below (s₁.setTop (entryFrame m #[.ref a, .ref b, .int (Int32.ofNat o), .int (Int32.ofNat len), .null] 6)) (T8.setTop (mkF m 45 #[.val (.ref a), .val (.ref b), .val (.int (Int32.ofNat o)), .val (.int (Int32.ofNat len)), .val .null, .val (.ref s.heap.size)] [.int (Int32.ofNat len), .ref s.heap.size, .ref a])) := c9.trans (by
      refine XS.astore X8.here hexec rfl (hb hbytes d39) rfl rfl rfl ?_
      refine XS.aloadN X8.here hexec rfl (hb hbytes d41) rfl rfl ?_
      refine XS.aload X8.here hexec rfl (hb hbytes d42) rfl rfl ?_
      refine XS.iloadN X8.here hexec rfl (hb hbytes d44) rfl ?_
      exact Steps.refl _)
    rw [n4]; exact hc
  obtain ⟨v11, T11, X11, E11, g11⟩ := X8.callS hexec (CodL.law l s.heap.size N) hown (wks W (staticW "java/lang/String" 47 CodL.yN)) (wk W CodL.tab) (W := 1) (Nat.le_of_ble_eq_true rfl) (Nat.le_of_ble_eq_true rfl) (Nat.le_refl _) (by show 0 + len + 0 ≤ len; omega) (g := (mkF m 45 #[.val (.ref a), .val (.ref b), .val (.int (Int32.ofNat o)), .val (.int (Int32.ofNat len)), .val .null, .val (.ref s.heap.size)] [.int (Int32.ofNat N.slots.size), .ref s.heap.size, .ref a])) rfl (by rw [hml]; rfl) c10 (argsL := [.ref s.heap.size, .int (Int32.ofNat N.slots.size)]) (rest := [.ref a]) rfl rfl (by show 2 * 0 + (1 + 0) ≤ _; decide) (hb hbytes d45) (⟨rfl, n1⟩)
  obtain ⟨rfl, q11⟩ := E11
  have hB11 := hB1.mv (X8.warmed.alike.symm.trans X11.warmed.alike) q11
  have c12 : Steps p.tables e below (s₁.setTop (entryFrame m #[.ref a, .ref b, .int (Int32.ofNat o), .int (Int32.ofNat len), .null] 6)) (T11.setTop (mkF m 48 #[.val (.ref a), .val (.ref b), .val (.int (Int32.ofNat o)), .val (.int (Int32.ofNat len)), .val .null, .val (.ref s.heap.size)] [.int 0, .ref a])) := g11
  obtain ⟨T13, X13, p13, bl13, sl13, st13⟩ := X11.finit hexec hown (wk W (.fieldLink "java/lang/String" 15 "java/lang/String" "coder" "B")) (Or.inr ⟨_, (wk W (.laysFinal "java/lang/String" "java/lang/String" "coder" "B"))⟩) (Or.inl ⟨rfl, hnm⟩) f2 (Or.inl rfl) hB11 (t := .byte) (by decide +kernel) rfl (g := (mkF m 48 #[.val (.ref a), .val (.ref b), .val (.int (Int32.ofNat o)), .val (.int (Int32.ofNat len)), .val .null, .val (.ref s.heap.size)] [.int 0, .ref a])) rfl (rest := []) rfl (hb hbytes d48)
  have c14 : Steps p.tables e below (s₁.setTop (entryFrame m #[.ref a, .ref b, .int (Int32.ofNat o), .int (Int32.ofNat len), .null] 6)) (T13.setTop (mkF m 54 #[.val (.ref a), .val (.ref b), .val (.int (Int32.ofNat o)), .val (.int (Int32.ofNat len)), .val .null, .val (.ref s.heap.size)] [.ref s.heap.size, .ref a])) := (c12.trans (st13 _ (Steps.refl _))).trans (by
    refine XS.aloadN X13.here hexec rfl (hb hbytes d51) rfl rfl ?_
    refine XS.aload X13.here hexec rfl (hb hbytes d52) rfl rfl ?_
    exact Steps.refl _)
  obtain ⟨T15, X15, p15, bl15, sl15, st15⟩ := X13.finit hexec hown (wk W (.fieldLink "java/lang/String" 9 "java/lang/String" "value" "[B")) (Or.inr ⟨_, (wk W (.laysFinal "java/lang/String" "java/lang/String" "value" "[B"))⟩) (Or.inl ⟨rfl, hnm⟩) f1 (Or.inl rfl) bl13 (t := (.array .byte)) (by decide +kernel) rfl (g := (mkF m 54 #[.val (.ref a), .val (.ref b), .val (.int (Int32.ofNat o)), .val (.int (Int32.ofNat len)), .val .null, .val (.ref s.heap.size)] [.ref s.heap.size, .ref a])) rfl (rest := []) rfl (hb hbytes d54)
  have c16 : Steps p.tables e below (s₁.setTop (entryFrame m #[.ref a, .ref b, .int (Int32.ofNat o), .int (Int32.ofNat len), .null] 6)) (T15.setTop (mkF m 57 #[.val (.ref a), .val (.ref b), .val (.int (Int32.ofNat o)), .val (.int (Int32.ofNat len)), .val .null, .val (.ref s.heap.size)] [])) := c14.trans (st15 _ (Steps.refl _))
  have ap := apart (Or.inr ⟨_, (wk W (.laysFinal "java/lang/String" "java/lang/String" "value" "[B"))⟩) (Or.inr ⟨_, (wk W (.laysFinal "java/lang/String" "java/lang/String" "coder" "B"))⟩) f1 f2 (t₁ := .array .byte) (t₂ := .byte) (by decide +kernel) (by decide +kernel) (by decide)
  have al := X8.warmed.alike.symm.trans X15.warmed.alike
  have n7 : T11.heap[s.heap.size]? = some N := by rw [q11]; exact n1.1
  exact ⟨T15, none, _, _, _, X15, by simp, rfl, by omega, (fun _ => rfl), ⟨rfl, _, N, bl15, ((Same.refl D _).set _ (by simp)).set _ (by simp), sl15, (Cell.slots_setSlot_ne _ ap).trans sl13, n1.keep al (p15.other hne (p13.other hne n7)), n2, by rw [al.findClass]; exact n3, n4, n5, fun y c h1 h2 => p15.other h1 (p13.other h1 (by rw [q11]; exact n6 y c h2)), by rw [p15.2.2, p13.2.2, q11]; exact z8⟩, fun fs hl => c16.trans (X15.returnOut hexec hret (hb hbytes d57) hl)⟩
end New4
namespace New1
def yN : MethodName := ⟨"java/lang/String", "<init>", "([C)V"⟩
abbrev yB : ByteArray := jdk_42_method_3_code
theorem d0 : decode yB 0 = .ok (.aload_n 0, 1) := by decide +kernel
theorem d1 : decode yB 1 = .ok (.aload_n 1, 1) := by decide +kernel
theorem d2 : decode yB 2 = .ok (.iconst 0, 1) := by decide +kernel
theorem d3 : decode yB 3 = .ok (.aload_n 1, 1) := by decide +kernel
theorem d4 : decode yB 4 = .ok (.arraylength, 1) := by decide +kernel
theorem d5 : decode yB 5 = .ok (.aconst_null, 1) := by decide +kernel
theorem d6 : decode yB 6 = .ok (.invokespecial 27, 3) := by decide +kernel
theorem d9 : decode yB 9 = .ok (.return_, 1) := by decide +kernel
def site : List Cond := [New4.tab] ++ initW "java/lang/String" 27 New4.yN
def tab : Cond := tabOf yN yB 2 none site
def P (a : Addr) (D : Cell) (fV fC : Field) (b : Addr) (A : Cell) (z : Int32) (args : Array Value) (s : State) : Prop := args = #[.ref a, .ref b] ∧ Blank "java/lang/String" a D s ∧ Found "java/lang/String" "value" "[B" fV s ∧ Found "java/lang/String" "coder" "B" fC s ∧ Ch b A s ∧ StaticIs s "java/lang/String" "COMPACT_STRINGS" "Z" (.int z) ∧ ¬ z = 0 ∧ 0 < A.slots.size ∧ A.slots.size ≤ 536870912 ∧ ∀ i, i < A.slots.size → ¬ 255 < cv A i
def E (a : Addr) (D : Cell) (fV fC : Field) (A : Cell) (r : Option Value) (s u : State) : Prop := Got a D fV fC A 0 A.slots.size r s u
/-- new String(chars), not empty, no char above 255: a Latin-1 String of their low bytes -/
theorem law (l : Launch) (a : Addr) (D : Cell) (fV fC : Field) (b : Addr) (A : Cell) (z : Int32) : Law l yN 2 1 3 52 yB 2 none site (P a D fV fC b A z) (E a D fV fC A) [⟨a, fC.slot⟩, ⟨a, fV.slot⟩] 1 A.slots.size := by
  refine Law.of_walk (plainFor_of_name (by decide +kernel)) (by decide +kernel) (by decide +kernel) (by decide) (fun _ _ h => by rw [h.1]; rfl) (fun _ U U' hal hh h => ⟨h.1, h.2.1.mv hal hh, h.2.2.1.al hal, h.2.2.2.1.al hal, h.2.2.2.2.1.mv hal hh, h.2.2.2.2.2.1.there hal hh, h.2.2.2.2.2.2⟩) (fun r U U' V V' h1 hal h2 h => Got.mv r U U' V V' h1 hal h2 h) ?_
  intro p e s m args below meth c s₁ X0 hexec hbytes hml hret hlk hnm hown hh0 W hP
  obtain ⟨rfl, hB, f1, f2, hA, s1, hz, l0, l2, hp⟩ := hP
  have c1 : Steps p.tables e below (s₁.setTop (entryFrame m #[.ref a, .ref b] 2)) (s₁.setTop (mkF m 0 #[.val (.ref a), .val (.ref b)] [])) := entry rfl
  have c2 : Steps p.tables e below (s₁.setTop (entryFrame m #[.ref a, .ref b] 2)) (s₁.setTop (mkF m 6 #[.val (.ref a), .val (.ref b)] [.null, .int (Int32.ofNat A.slots.size), .int 0, .ref b, .ref a])) := c1.trans (by
    refine XS.aloadN X0.here hexec rfl (hb hbytes d0) rfl rfl ?_
    refine XS.aloadN X0.here hexec rfl (hb hbytes d1) rfl rfl ?_
    refine iconstV X0.here hexec rfl 0 (hb hbytes d2) (by decide) ?_
    refine XS.aloadN X0.here hexec rfl (hb hbytes d3) rfl rfl ?_
    refine X0.alen hexec (hA.1.mv X0.warmed.alike hh0) rfl rfl (hb hbytes d4) ?_
    refine XS.aconstNull X0.here hexec rfl (hb hbytes d5) ?_
    exact Steps.refl _)
  obtain ⟨v3, T3, X3, E3, g3⟩ := X0.callN hexec (New4.law l a D fV fC b A z 0 A.slots.size) rfl hown (wks W (initW "java/lang/String" 27 New4.yN)) (W New4.tab (by simp only [site, List.mem_cons, List.mem_append, true_or, or_true])) (W := 0) (Nat.le_of_ble_eq_true rfl) (Nat.le_of_ble_eq_true rfl) (Nat.le_refl _) (by show 0 + A.slots.size ≤ A.slots.size; omega) (g := (mkF m 6 #[.val (.ref a), .val (.ref b)] [.null, .int (Int32.ofNat A.slots.size), .int (Int32.ofNat 0), .ref b, .ref a])) rfl (by rw [hml]; rfl) c2 (argsL := [.ref b, .int (Int32.ofNat 0), .int (Int32.ofNat A.slots.size), .null]) (rest := []) rfl rfl (by show 2 * 0 + 0 ≤ _; decide) (hb hbytes d6) (⟨rfl, hB.mv X0.warmed.alike hh0, f1.al X0.warmed.alike, f2.al X0.warmed.alike, hA.mv X0.warmed.alike hh0, s1.there X0.warmed.alike hh0, hz, l0, by omega, l2, fun i hi => by rw [Nat.zero_add]; exact hp i hi⟩)
  have e0 := Got.mv _ s₁ s _ _ hh0.symm (Vm.Alike.refl _) rfl E3
  obtain rfl := e0.1
  have c4 : Steps p.tables e below (s₁.setTop (entryFrame m #[.ref a, .ref b] 2)) (T3.setTop (mkF m 9 #[.val (.ref a), .val (.ref b)] [])) := g3
  exact ⟨T3, none, _, _, _, X3, by simp, rfl, by omega, (fun _ => rfl), e0, fun fs hl => c4.trans (X3.returnOut hexec hret (hb hbytes d9) hl)⟩
theorem pays {l : Launch} {R : Room} {p : Program} {e : Env} {below : List Frame} {s : State} {sargs : Array Value} {len W : Nat} (a : Addr) (D : Cell) (fV fC : Field) (b : Addr) (A : Cell) (z : Int32) (htab : tab.before sargs s = true) (hfr : 4 ≤ R.frames) (hlo : W + 65 ≤ R.locals) :
    Back l R p e below s sargs yN len W (fun A₁ a₁ => A₁.cells + 1 ≤ R.cells ∧ A₁.slots + A.slots.size ≤ R.slots ∧ P a D fV fC b A z a₁ A₁.U) (fun A₁ _ v₁ B₁ => E a D fV fC A v₁ A₁.U B₁.U ∧ B₁.locs = A₁.locs ++ [⟨a, fC.slot⟩, ⟨a, fV.slot⟩] ∧ B₁.cells = A₁.cells + 1 ∧ B₁.slots = A₁.slots + A.slots.size) :=
  (law l a D fV fC b A z).pays htab hfr (by omega)
end New1
/-- the byte, read back as charAt reads it, is the char -/
theorem lo8_mask {x : Int32} (h0 : ¬ x < 0) (h1 : ¬ 255 < x) : lo8 x &&& 255 = x := by
  have t : ∀ k : Fin 256, lo8 (Int32.ofNat k.val) &&& 255 = Int32.ofNat k.val := by decide +kernel
  rw [Int32.lt_iff_toInt_lt] at h0 h1
  have e0 : (0 : Int32).toInt = 0 := rfl
  have e1 : (255 : Int32).toInt = 255 := rfl
  obtain ⟨k, hk⟩ : ∃ k : Nat, x.toInt = k := ⟨x.toInt.toNat, by omega⟩
  have hx : x = Int32.ofNat k := Int32.toInt_inj.mp (by rw [hk, Int32.toInt_ofNat_small (by omega)])
  rw [hx]
  exact t ⟨k, by omega⟩
end StrChars
namespace StrChars.Road
open Jvm Sem ClassFile Op Lib Jvm.Stand Jvm.Free Jvm.Free.XT
open Jvm.Lib.Cold (StaticIs)
abbrev ST : String := "java/lang/String"
/-- every table word that New1's law asks, flat -/
abbrev words : List Jvm.Cond := [.code New1.yN New1.yB 2 none, .initialized ST, .methodLink ST 27 New4.yN, .instanceMethod New4.yN,
  .code New4.yN New4.yB 6 none, .fieldLink ST 38 ST "COMPACT_STRINGS" "Z", .laysFinal ST ST "value" "[B", .fieldLink ST 9 ST "value" "[B", .laysFinal ST ST "coder" "B", .fieldLink ST 15 ST "coder" "B",
  .methodLink ST 1 Lib.objectInit, .instanceMethod Lib.objectInit, .code Lib.objectInit ⟨#[0xb1]⟩ 1 none, .methodLink ST 177 Cmp3.yN, .static Cmp3.yN, .methodLink ST 47 CodL.yN, .static CodL.yN,
  .code Cmp3.yN Cmp3.yB 6 (some (.array .byte)), .initialized U16, .arrayClass .byte, .methodLink U16 115 Cmp5.yN, .static Cmp5.yN, .code Cmp5.yN Cmp5.yB 7 (some .int), .code CodL.yN CodL.yB 2 (some .byte)]
theorem tab_of {a : Array Value} {s : State} (h : ∀ w ∈ words, w.before a s = true) : New1.tab.before a s = true := by
  have h5 : Cmp5.tab.before a s = true := unparts (wk h (.code Cmp5.yN Cmp5.yB 7 (some .int))) (wks h (.initialized Cmp5.yN.cls :: Cmp5.site))
  have hc : CodL.tab.before a s = true := unparts (wk h (.code CodL.yN CodL.yB 2 (some .byte))) (wks h (.initialized CodL.yN.cls :: CodL.site))
  have q5 : ∀ w ∈ Cmp5.tab :: words, w.before a s = true := fun w hw => (List.mem_cons.mp hw).elim (fun e => e ▸ h5) (h w)
  have h3 : Cmp3.tab.before a s = true := unparts (wk q5 (.code Cmp3.yN Cmp3.yB 6 (some (.array .byte)))) (wks q5 (.initialized Cmp3.yN.cls :: Cmp3.site))
  have q3 : ∀ w ∈ Cmp3.tab :: CodL.tab :: words, w.before a s = true := fun w hw => (List.mem_cons.mp hw).elim (fun e => e ▸ h3) fun hw => (List.mem_cons.mp hw).elim (fun e => e ▸ hc) (h w)
  have h4 : New4.tab.before a s = true := unparts (wk q3 (.code New4.yN New4.yB 6 none)) (wks q3 (.initialized New4.yN.cls :: New4.site))
  have q4 : ∀ w ∈ New4.tab :: words, w.before a s = true := fun w hw => (List.mem_cons.mp hw).elim (fun e => e ▸ h4) (h w)
  exact unparts (wk q4 (.code New1.yN New1.yB 2 none)) (wks q4 (.initialized New1.yN.cls :: New1.site))
/-- the words ride from the start Z to the walk's own state -/
theorem moved {Z s : State} {a0 args : Array Value} (hZ : Z.Warmed39 s.vm) (hw : ∀ d ∈ words, d.before a0 Z = true) : ∀ d ∈ words, d.before args s = true := fun d hd => by
  have q := hw d hd
  have t : ∀ d ∈ words, d = .arrayClass .byte ∨ (d.onTables && d.keepsFace) = true := by decide +kernel
  rcases t d hd with rfl | t
  · exact RoadKit.mvA hZ q
  · exact RoadKit.mv hZ q t
/-- WHAT COMES BACK, over the tables of the start Z: h the heap at the call, h' behind it -/
def Q (Z : State) (x : Addr) (A : Cell) (h : Heap) (v : Option Value) (h' : Heap) (L : List Loc) : Prop := v = none ∧ (∀ y ∈ L, y.base = x) ∧ RoadKit.Keep h h' [x] ∧ h'.size = h.size + 1 ∧ RoadKit.Exa Z h' x ST ∧ RoadKit.Fld Z h' x ST "value" "[B" (.ref h.size) ∧ RoadKit.Fld Z h' x ST "coder" "B" (.int 0) ∧
  (∃ V : Cell, RoadKit.Arr Z h' h.size V .byte ∧ V.vm = .none ∧ Z.vm.findClass "[B" = some V.cls ∧ V.slots.size = A.slots.size ∧ ∀ j, j < A.slots.size → V.slots[j]? = some (.int (lo8 (cv A j)))) ∧
  ∀ (O n d : String) (w : Value), RoadKit.Fld Z h x O n d w → RoadKit.slotOf Z O n d ≠ RoadKit.slotOf Z ST "value" "[B" → RoadKit.slotOf Z O n d ≠ RoadKit.slotOf Z ST "coder" "B" → RoadKit.Fld Z h' x O n d w
/-- **new String(chars) AT A CALL, IN THE ROAD'S FORM**: for specialBack behind newO: x the fresh String, b the char[] with the cell A -/
theorem back {p : Program} {l : Launch} {e : Env} {R : Room} {s : State} {args : Array Value} {below : List Frame} {len W : Nat} {Z : State} {a0 : Array Value} {h : Heap} (hZ : Z.Warmed39 s.vm) (hw : ∀ d ∈ words, d.before a0 Z = true) {kI : Nat} (wi : (Jvm.Cond.instantiable ST kI).before a0 Z = true)
    {x b : Addr} {A : Cell} {z : Int32} {v0 c0 : Value} (E : RoadKit.Exa Z h x ST) (V : RoadKit.Fld Z h x ST "value" "[B" v0) (C : RoadKit.Fld Z h x ST "coder" "B" c0) (K : RoadKit.Arr Z h b A .char) (hty : Typed .char A) (S : RoadKit.Sta Z h ST "COMPACT_STRINGS" "Z" (.int z)) (hz : ¬ z = 0)
    (l0 : 0 < A.slots.size) (l2 : A.slots.size ≤ 536870912) (hp : ∀ i, i < A.slots.size → ¬ 255 < cv A i) (hfr : 4 ≤ R.frames) (hlo : W + 65 ≤ R.locals) :
    Back l R p e below s args New1.yN len W (fun P a => a = #[.ref x, .ref b] ∧ P.U.heap = h ∧ P.cells + 1 ≤ R.cells ∧ P.slots + A.slots.size ≤ R.slots)
      (fun P _ v B => ∃ L, Q Z x A h v B.U.heap L ∧ B.locs = P.locs ++ L ∧ B.cells = P.cells + 1 ∧ B.slots = P.slots + A.slots.size) := by
  intro m meth c P g ig mk a X hg hsize hdg hW hn hp'
  obtain ⟨rfl, rfl, r1, r2⟩ := hp'
  have al : Z.vm.Alike P.U.vm := hZ.alike.trans X.warmed.alike
  obtain ⟨D, cfV, kV, iV, fV, hD, gV, stV, knV, obV, asV, slV⟩ := id V
  obtain ⟨D', cfC, kC, iC, fC, hD', gC, stC, -, -, asC, slC⟩ := id C
  cases hD.symm.trans hD'
  obtain ⟨D2, kD, e1, e2, e3, e4, e5⟩ := id E
  cases hD.symm.trans e1
  obtain ⟨c2, k2, i1, i2, i3, -⟩ := Cond.instantiable_spec wi
  cases e2.symm.trans i1
  cases e3.symm.trans i2
  obtain ⟨kU, u1, u2⟩ := al.2.2 _ _ e3
  have hB : Blank ST x D P.U := ⟨hD, ⟨knV, fun q hq => by rw [hq] at obV; cases obV⟩, by rw [al.findClass]; exact e2, kU, u1, by rw [u2]; exact i3, by rw [u2]; exact e5 i3⟩
  have F1 : Found ST "value" "[B" fV P.U := ⟨SBG.found_only al ⟨cfV, kV, iV, gV⟩, stV⟩
  have F2 : Found ST "coder" "B" fC P.U := ⟨SBG.found_only al ⟨cfC, kC, iC, gC⟩, stC⟩
  have hA : Ch b A P.U := ⟨⟨K.1, State.isArrayOf_alike al K.2.1, K.2.2, by omega⟩, hty⟩
  have hS : StaticIs P.U ST "COMPACT_STRINGS" "Z" (.int z) := by
    obtain ⟨cfS, iS, kS, fS, st, cS, t1, t2, t3, t4, t5, t6, t7⟩ := S
    exact StaticIs.there (s := { Z with heap := P.U.heap }) ⟨cfS, iS, kS, fS, st, cS, t1, t2, t3, t4, t5, (fun q => by rw [q] at t6; cases t6), t7⟩ al rfl
  obtain ⟨v, B, X', ⟨⟨hv, E', V', q1, q2, q3, q4, q5, q6, q7, q8, q9, q10, q11⟩, hl, hc, hs⟩, st⟩ := New1.pays x D fV fC b A z (tab_of (moved hZ hw)) hfr hlo m meth c P g ig mk _ X hg hsize hdg hW hn ⟨r1, r2, rfl, hB, F1, F2, hA, hS, hz, l0, l2, hp⟩
  have al' : Z.vm.Alike B.U.vm := hZ.alike.trans X'.warmed.alike
  have hsz : E'.slots.size = D.slots.size := by
    obtain ⟨-, -, -, kB, w1, w2, w3⟩ := q1
    obtain ⟨kB', y1, y2⟩ := al'.2.2 _ _ e3
    rw [q2.2.1] at w1
    cases w1.symm.trans y1
    rw [w3, e5 i3, y2]
  refine ⟨v, B, X', ⟨_, ⟨hv, ?_, ⟨by omega, fun y cy hy hn' => q10 y cy (by simpa using hn') hy, fun y cy hy => ?_⟩, q11, ⟨E', _, q1.1, by rw [q2.2.1]; exact e2, by rw [q2.2.1]; exact e3, by rw [q2.1]; exact obV, fun _ => by rw [hsz]; exact e5 i3⟩,
    ⟨E', cfV, kV, iV, fV, q1.1, gV, stV, by rw [q2.1]; exact knV, by rw [q2.1]; exact obV, by rw [q2.2.1]; exact asV, q3⟩, ⟨E', cfC, kC, iC, fC, q1.1, gC, stC, by rw [q2.1]; exact knV, by rw [q2.1]; exact obV, by rw [q2.2.1]; exact asC, q4⟩,
    ⟨V', ⟨q5.1, State.isArrayOf_alike al'.symm q5.2.1, q5.2.2.1⟩, q6, by rw [← al'.findClass]; exact q7, q8, fun j hj => by have := q9 j hj; rwa [Nat.zero_add] at this⟩, fun O n d w F n1 n2 => ?_⟩, hl, hc, hs⟩, st⟩
  · intro y hy
    simp only [List.mem_cons, List.not_mem_nil, or_false] at hy
    rcases hy with rfl | rfl <;> rfl
  · by_cases q : y = x
    · subst q
      cases hD.symm.trans hy
      exact ⟨E', q1.1, q2.2.1, q2.1, hsz⟩
    · exact ⟨cy, q10 y cy q hy, rfl, rfl, rfl⟩
  · obtain ⟨D3, cf, k, i, f, g1, g2, g3, g4, g5, g6, g7⟩ := F
    cases hD.symm.trans g1
    simp only [RoadKit.slotOf, g2, gV, gC, Option.map_some, Option.getD_some] at n1 n2
    exact ⟨E', cf, k, i, f, q1.1, g2, g3, by rw [q2.1]; exact g4, by rw [q2.1]; exact g5, by rw [q2.2.1]; exact g6, by rw [q2.2.2 f.slot (by simp [n1, n2])]; exact g7⟩
end StrChars.Road
namespace StrChars.Road
open Jvm Sem ClassFile Op Lib Jvm.Stand Jvm.Free Jvm.Free.XT
/-- WHAT COMES BACK, the byte[] as a list of values -/
def QA (Z : State) (x : Addr) (zn : Int32) (cs : List Int32) (h : Heap) (v : Option Value) (h' : Heap) (L : List Loc) : Prop := v = none ∧ (∀ y ∈ L, y.base = x) ∧ RoadKit.Keep h h' [x] ∧ h'.size = h.size + 1 ∧ RoadKit.Exa Z h' x ST ∧ RoadKit.Fld Z h' x ST "value" "[B" (.ref h.size) ∧ RoadKit.Fld Z h' x ST "coder" "B" (.int 0) ∧
  (∃ kb, Z.vm.findClass "[B" = some kb ∧ RoadKit.Arv Z h' h.size kb .byte zn (cs.map fun c => .int (lo8 c)) (.int 0)) ∧
  ∀ (O n d : String) (w : Value), RoadKit.Fld Z h x O n d w → RoadKit.slotOf Z O n d ≠ RoadKit.slotOf Z ST "value" "[B" → RoadKit.slotOf Z O n d ≠ RoadKit.slotOf Z ST "coder" "B" → RoadKit.Fld Z h' x O n d w
/-- **new String(chars) AT A CALL, THE ARRAYS AS LISTS**: the char[] at b holds cs, not empty, no char above 255 -/
theorem backArv {p : Program} {l : Launch} {e : Env} {R : Room} {s : State} {args : Array Value} {below : List Frame} {len W : Nat} {Z : State} {a0 : Array Value} {h : Heap} (hZ : Z.Warmed39 s.vm) (hw : ∀ d ∈ words, d.before a0 Z = true) {kI : Nat} (wi : (Jvm.Cond.instantiable ST kI).before a0 Z = true)
    {x b : Addr} {k : ClassId} {zn z : Int32} {cs : List Int32} {dv v0 c0 : Value} (E : RoadKit.Exa Z h x ST) (V : RoadKit.Fld Z h x ST "value" "[B" v0) (C : RoadKit.Fld Z h x ST "coder" "B" c0) (K : RoadKit.Arv Z h b k .char zn (cs.map Value.int) dv) (S : RoadKit.Sta Z h ST "COMPACT_STRINGS" "Z" (.int z)) (hz : ¬ z = 0)
    (hlen : zn.toNatClampNeg = cs.length) (h0 : 0 < cs.length) (hbig : cs.length ≤ 536870912) (hall : ∀ c ∈ cs, ¬ 255 < c) (hfr : 4 ≤ R.frames) (hlo : W + 65 ≤ R.locals) :
    Back l R p e below s args New1.yN len W (fun P a => a = #[.ref x, .ref b] ∧ P.U.heap = h ∧ P.cells + 1 ≤ R.cells ∧ P.slots + cs.length ≤ R.slots)
      (fun P _ v B => ∃ L, QA Z x zn cs h v B.U.heap L ∧ B.locs = P.locs ++ L ∧ B.cells = P.cells + 1 ∧ B.slots = P.slots + cs.length) := by
  obtain ⟨A, K1, K2, K3, K4, K5, K6⟩ := K
  have e : A.slots.size = cs.length := K3.trans hlen
  have hat : ∀ (i : Nat) (hi : i < cs.length), A.slots[i]? = some (.int cs[i]) := fun i hi => by rw [K5 i (by omega)]; simp [List.getD_eq_getElem?_getD, hi]
  have hcv : ∀ (i : Nat) (hi : i < cs.length), cv A i = cs[i] := fun i hi => by unfold cv; rw [hat i hi]
  have hty : Typed .char A := fun i v hv => by
    have hi : i < A.slots.size := (Array.getElem?_eq_some_iff.mp hv).1
    have q := K5 i hi
    rw [hv] at q
    rw [Option.some.inj q]
    exact K6 i hi
  refine Back.mono (back hZ hw wi E V C K1 hty S hz (by omega) (by omega) (fun i hi => by rw [hcv i (by omega)]; exact hall _ (List.getElem_mem _)) hfr hlo) (fun P a hp => ⟨hp.1, hp.2.1, hp.2.2.1, by rw [e]; exact hp.2.2.2⟩) (fun P a v B hp hq => ?_)
  obtain ⟨L, ⟨q1, q2, q3, q4, q5, q6, q7, ⟨V', v1, v2, v3, v4, v5⟩, q9⟩, hl, hc, hs⟩ := hq
  refine ⟨L, ⟨q1, q2, q3, q4, q5, q6, q7, ⟨V'.cls, v3, V', v1, rfl, by rw [v4, e, hlen], K4, fun i hi => ?_, fun i hi => ?_⟩, q9⟩, hl, hc, by rw [hs, e]⟩
  · have hi' : i < cs.length := by omega
    rw [v5 i (by omega), hcv i hi']; simp [List.getD_eq_getElem?_getD, hi']
  · have hi' : i < cs.length := by omega
    simp only [List.getD_eq_getElem?_getD, List.getElem?_map, List.getElem?_eq_getElem hi', Option.map_some, Option.getD_some]
    exact fits_lo8 _
end StrChars.Road
namespace StrChars.Road
open Jvm Sem ClassFile Op Lib Jvm.Stand Jvm.Free Jvm.Free.XT
/-- WHAT COMES BACK, in the writer's own shape -/
def QV (Z : State) (x : Addr) (N : Int32) (bs : List Int32) (h : Heap) (n0 : Nat) (v : Option Value) (h' : Heap) (L : List Loc) : Prop := v = none ∧ RoadKit.Fr n0 L ∧ RoadKit.Keep h h' [x] ∧ RoadKit.Exa Z h' x ST ∧ RoadKit.Fld Z h' x ST "coder" "B" (.int 0) ∧
  ∃ (t : Addr) (kb : ClassId), n0 ≤ t ∧ h.size ≤ t ∧ ¬ t = x ∧ RoadKit.Fld Z h' x ST "value" "[B" (.ref t) ∧ RoadKit.Arv Z h' t kb .byte N (bs.map Value.int) (.int 0)
/-- **new String(chars) AT A CALL, FOR THE WRITER**: a char[] of n known ints, each 0 to 255 -/
theorem backV {p : Program} {l : Launch} {e : Env} {R : Room} {s : State} {args : Array Value} {below : List Frame} {len W : Nat} {Z : State} {a0 : Array Value} {h : Heap} (hZ : Z.Warmed39 s.vm) (hw : ∀ d ∈ words, d.before a0 Z = true) {kI : Nat} (wi : (Jvm.Cond.instantiable ST kI).before a0 Z = true)
    {x b : Addr} {kC : ClassId} {cs bs : List Int32} {d v0 c0 : Value} {z N : Int32} {n n0 : Nat} (hx0 : n0 ≤ x) (hh0 : n0 ≤ h.size) (E : RoadKit.Exa Z h x ST) (V : RoadKit.Fld Z h x ST "value" "[B" v0) (C : RoadKit.Fld Z h x ST "coder" "B" c0) (K : RoadKit.Arv Z h b kC .char N (cs.map Value.int) d) (S : RoadKit.Sta Z h ST "COMPACT_STRINGS" "Z" (.int z)) (hz : ¬ z = 0)
    (hn : cs.length = n) (hN : N = Int32.ofNat n) (l0 : 0 < n) (l2 : n ≤ 4000) (hp : ∀ c ∈ cs, ¬ c < 0 ∧ ¬ (255 : Int32) < c) (hb : bs = cs.map (fun c => c.toInt8.toInt32)) (hfr : 4 ≤ R.frames) (hlo : W + 65 ≤ R.locals) :
    Back l R p e below s args (⟨"java/lang/String", "<init>", "([C)V"⟩ : MethodName) len W (fun P a => a = #[.ref x, .ref b] ∧ P.U.heap = h ∧ P.cells + 1 ≤ R.cells ∧ P.slots + n ≤ R.slots)
      (fun P _ v B => ∃ L, QV Z x N bs h n0 v B.U.heap L ∧ B.locs = P.locs ++ L ∧ B.cells = P.cells + 1 ∧ B.slots = P.slots + n) := by
  subst hn hN hb
  refine Back.mono (backArv hZ hw wi E V C K S hz (n32 (by omega)) l0 (by omega) (fun c hc => (hp c hc).2) hfr hlo) (fun P a hp => hp) (fun P a v B hp hq => ?_)
  obtain ⟨L, ⟨q1, q2, q3, q4, q5, q6, q7, ⟨kb, v1, v2⟩, q9⟩, hl, hc, hs⟩ := hq
  exact ⟨L, ⟨q1, fun y hy => by rw [q2 y hy]; exact hx0, q3, q5, q7, h.size, kb, hh0, Nat.le_refl _, Nat.ne_of_gt E.lt, q6, by rw [List.map_map]; exact v2⟩, hl, hc, hs⟩
end StrChars.Road
namespace StrChars
open Jvm Sem ClassFile Op Lib Jvm.Stand Jvm.Free.XT Jvm.Free.ALB Jvm.Free.JM Jvm.Free
open Jvm.Lib.Cold (StaticIs)
def hi8 (x : Int32) : Int32 := lo8 (x >>> ((8 : Int32) &&& 31))
/-- what StringUTF16.getChar makes of two bytes -/
def pairCh (u v : Int32) : Int32 := (((u &&& 255) <<< ((0 : Int32) &&& 31)) ||| ((v &&& 255) <<< ((8 : Int32) &&& 31))).toUInt32.toUInt16.toUInt32.toInt32
theorem shr0 (c : Int32) : c >>> ((0 : Int32) &&& 31) = c := by
  have e : ((0 : Int32) &&& 31) = 0 := by decide
  rw [e]
  apply Int32.toBitVec_inj.mp
  rw [Int32.toBitVec_shiftRight]
  have e1 : ((0 : Int32).toBitVec.smod 32) = 0#32 := by decide
  rw [e1, BitVec.sshiftRight_eq']
  exact BitVec.sshiftRight_zero
theorem lo8_and (x : Int32) : (lo8 x &&& 255).toBitVec.toNat = x.toBitVec.toNat % 256 := by
  have h : (lo8 x).toBitVec = (x.toBitVec.signExtend 8).signExtend 32 := by rw [lo8, Int8.toBitVec_toInt32, Int32.toBitVec_toInt8]
  rw [Int32.toBitVec_and, BitVec.toNat_and, h]
  have e : ((x.toBitVec.signExtend 8).signExtend 32).toNat % 256 = x.toBitVec.toNat % 256 := by
    rw [BitVec.toNat_signExtend]
    have hlt := x.toBitVec.isLt
    simp only [BitVec.toNat_setWidth, BitVec.toNat_signExtend]
    split <;> split <;> omega
  rw [← e]
  exact Nat.and_two_pow_sub_one_eq_mod _ 8
theorem pair_says {c : Int32} (h0 : ¬ c < 0) (h1 : ¬ 65535 < c) : pairCh (lo8 c) (hi8 c) = c := by
  rw [Int32.lt_iff_toInt_lt] at h0 h1
  have e0 : (0 : Int32).toInt = 0 := rfl
  have e1 : (65535 : Int32).toInt = 65535 := rfl
  have hc : c.toInt = c.toBitVec.toNat := by
    have := c.toBitVec.isLt
    have e : c.toInt = c.toBitVec.toInt := rfl
    rw [e] at h0 h1
    rw [e]
    rw [BitVec.toInt_eq_toNat_cond] at h0 h1 ⊢
    split at h0 <;> split <;> omega
  have hn : c.toBitVec.toNat < 65536 := by omega
  have a1 := lo8_and c
  have a2 : (hi8 c &&& 255).toBitVec.toNat = c.toBitVec.toNat / 256 := by
    rw [hi8, lo8_and]
    have e : ((8 : Int32) &&& 31) = 8 := by decide
    rw [e, Int32.toBitVec_shiftRight]
    have e2 : ((8 : Int32).toBitVec.smod 32) = 8#32 := by decide
    rw [e2, BitVec.sshiftRight_eq', BitVec.toNat_sshiftRight_of_msb_false (by rw [BitVec.msb_eq_false_iff_two_mul_lt]; omega)]
    show c.toBitVec.toNat >>> 8 % 256 = _
    rw [Nat.shiftRight_eq_div_pow]
    omega
  unfold pairCh
  apply Int32.toBitVec_inj.mp
  apply BitVec.eq_of_toNat_eq
  have f0 : ((0 : Int32) &&& 31) = 0 := by decide
  have f8 : ((8 : Int32) &&& 31) = 8 := by decide
  rw [f0, f8]
  have g : (((lo8 c &&& 255) <<< (0 : Int32)) ||| ((hi8 c &&& 255) <<< (8 : Int32))).toBitVec.toNat = c.toBitVec.toNat := by
    rw [Int32.toBitVec_or, Int32.toBitVec_shiftLeft, Int32.toBitVec_shiftLeft]
    have s0 : ((0 : Int32).toBitVec.smod 32) = 0#32 := by decide
    have s8 : ((8 : Int32).toBitVec.smod 32) = 8#32 := by decide
    rw [s0, s8, BitVec.toNat_or]
    simp only [BitVec.shiftLeft_eq', BitVec.toNat_shiftLeft, a1, a2]
    show (c.toBitVec.toNat % 256) <<< 0 % 2 ^ 32 ||| (c.toBitVec.toNat / 256) <<< 8 % 2 ^ 32 = _
    rw [Nat.shiftLeft_zero, Nat.mod_eq_of_lt (show c.toBitVec.toNat % 256 < 2 ^ 32 by omega), Nat.mod_eq_of_lt (show (c.toBitVec.toNat / 256) <<< 8 < 2 ^ 32 by rw [Nat.shiftLeft_eq]; omega), Nat.or_comm, ← Nat.shiftLeft_add_eq_or_of_lt (by omega), Nat.shiftLeft_eq]
    omega
  show BitVec.toNat (((((lo8 c &&& 255) <<< (0 : Int32)) ||| ((hi8 c &&& 255) <<< (8 : Int32))).toBitVec.setWidth 16).setWidth 32) = _
  rw [BitVec.toNat_setWidth, BitVec.toNat_setWidth, g]
  omega
end StrChars
namespace StrChars
open Jvm Sem ClassFile Op Lib Jvm.Stand Jvm.Free.XT Jvm.Free.ALB Jvm.Free.JM Jvm.Free
open Jvm.Lib.Cold (StaticIs)
theorem shr1 {n : Nat} (h : 2 * n < 2 ^ 31) : Int32.ofNat (2 * n) >>> ((1 : Int32) &&& 31) = Int32.ofNat n := by
  have e : ((1 : Int32) &&& 31) = 1 := by decide
  rw [e]
  apply Int32.toBitVec_inj.mp
  rw [Int32.toBitVec_shiftRight]
  have e1 : ((1 : Int32).toBitVec.smod 32) = 1#32 := by decide
  have hm : (BitVec.ofNat 32 (2 * n)).toNat = 2 * n := by rw [BitVec.toNat_ofNat, Nat.mod_eq_of_lt (by omega)]
  rw [e1, BitVec.sshiftRight_eq']
  apply BitVec.eq_of_toNat_eq
  show ((BitVec.ofNat 32 (2 * n)).sshiftRight 1).toNat = (BitVec.ofNat 32 n).toNat
  rw [BitVec.toNat_sshiftRight_of_msb_false (by rw [BitVec.msb_eq_false_iff_two_mul_lt, hm]; omega), hm, BitVec.toNat_ofNat, Nat.shiftRight_eq_div_pow]
  omega
/-- charAt's cast of a byte read back -/
def chr8 (u : Int32) : Int32 := (u &&& 255).toUInt32.toUInt16.toUInt32.toInt32
theorem chr8_lo8 {c : Int32} (h0 : ¬ c < 0) (h1 : ¬ 255 < c) : chr8 (lo8 c) = c := by
  have t : ∀ k : Fin 256, (Int32.ofNat k.val).toUInt32.toUInt16.toUInt32.toInt32 = Int32.ofNat k.val := by decide +kernel
  unfold chr8
  rw [lo8_mask h0 h1]
  rw [Int32.lt_iff_toInt_lt] at h0 h1
  have e0 : (0 : Int32).toInt = 0 := rfl
  have e1 : (255 : Int32).toInt = 255 := rfl
  obtain ⟨k, hk⟩ : ∃ k : Nat, c.toInt = k := ⟨c.toInt.toNat, by omega⟩
  have hx : c = Int32.ofNat k := Int32.toInt_inj.mp (by rw [hk, Int32.toInt_ofNat_small (by omega)])
  rw [hx]
  exact t ⟨k, by omega⟩
theorem narrow_ch {c : Int32} (h0 : ¬ c < 0) (h1 : ¬ 65535 < c) : narrow .char (.int c) = .int c := by
  have q : narrow .char (.int (pairCh (lo8 c) (hi8 c))) = .int (pairCh (lo8 c) (hi8 c)) := narrow_c _
  rwa [pair_says h0 h1] at q
/-- the array's cell V codes the n chars f 0 .. f (n - 1) by the coder cd, as the JDK does: coder 1 just where some char is above 255 -/
def Cod (cd : Int32) (n : Nat) (f : Nat → Int32) (V : Cell) : Prop := (cd = 0 ∧ V.slots.size = n ∧ ∀ j, j < n → V.slots[j]? = some (.int (lo8 (f j))) ∧ ¬ 255 < f j) ∨ (cd = 1 ∧ V.slots.size = 2 * n ∧ (∀ j, j < n → V.slots[2 * j]? = some (.int (lo8 (f j))) ∧ V.slots[2 * j + 1]? = some (.int (hi8 (f j)))) ∧ ∃ j, j < n ∧ 255 < f j)
theorem Cod.cd {cd : Int32} {n : Nat} {f : Nat → Int32} {V : Cell} (h : Cod cd n f V) : cd = 0 ∨ cd = 1 := h.imp (fun q => q.1) fun q => q.1
theorem Cod.len {cd : Int32} {n : Nat} {f : Nat → Int32} {V : Cell} (h : Cod cd n f V) (hs : V.slots.size < 2 ^ 31) : Int32.ofNat V.slots.size >>> (cd &&& 31) = Int32.ofNat n := by
  rcases h with ⟨rfl, h, -⟩ | ⟨rfl, h, -⟩
  · rw [shr0, h]
  · rw [h, shr1 (by omega)]
/-- **x is a String of the n chars f 0 .. f (n - 1)**, Latin-1 or UTF-16; its array at t has the cell V -/
def Txt (x t : Addr) (V : Cell) (cd : Int32) (n : Nat) (f : Nat → Int32) (U : State) : Prop := Exact "java/lang/String" x U ∧ Has x "java/lang/String" "value" "[B" (.ref t) U ∧ Has x "java/lang/String" "coder" "B" (.int cd) U ∧ XT.Arr .byte t V U ∧ Cod cd n f V ∧ ∀ j, j < n → ¬ f j < 0 ∧ ¬ 65535 < f j
theorem Txt.mv {x t : Addr} {V : Cell} {cd : Int32} {n : Nat} {f : Nat → Int32} {U U' : State} (h : Txt x t V cd n f U) (hal : U.vm.Alike U'.vm) (hh : U'.heap = U.heap) : Txt x t V cd n f U' := ⟨h.1.mv hal hh, h.2.1.mv hal hh, h.2.2.1.mv hal hh, h.2.2.2.1.mv hal hh, h.2.2.2.2⟩
namespace Cdr
def yN : MethodName := ⟨"java/lang/String", "coder", "()B"⟩
abbrev yB : ByteArray := jdk_42_method_152_code
theorem d0 : decode yB 0 = .ok (.getstatic 38, 3) := by decide +kernel
theorem d3 : decode yB 3 = .ok (.ifCond (.eq) 10, 3) := by decide +kernel
theorem d6 : decode yB 6 = .ok (.aload_n 0, 1) := by decide +kernel
theorem d7 : decode yB 7 = .ok (.getfield 15, 3) := by decide +kernel
theorem d10 : decode yB 10 = .ok (.goto 4, 3) := by decide +kernel
theorem d14 : decode yB 14 = .ok (.ireturn, 1) := by decide +kernel
def site : List Cond := [.fieldLink "java/lang/String" 38 "java/lang/String" "COMPACT_STRINGS" "Z", .fieldLink "java/lang/String" 15 "java/lang/String" "coder" "B"]
def tab : Cond := tabOf yN yB 1 (some .byte) site
def P (x : Addr) (cd z : Int32) (args : Array Value) (s : State) : Prop := args = #[.ref x] ∧ Has x "java/lang/String" "coder" "B" (.int cd) s ∧ (cd = 0 ∨ cd = 1) ∧ StaticIs s "java/lang/String" "COMPACT_STRINGS" "Z" (.int z) ∧ ¬ z = 0
def E (cd : Int32) (r : Option Value) (s u : State) : Prop := XT.PureE (some (.int cd)) r s u
theorem law (l : Launch) (x : Addr) (cd z : Int32) : Law l yN 1 0 0 0 yB 1 (some .byte) site (P x cd z) (E cd) [] 0 0 := by
  refine Law.of_walk (plainFor_of_name (by decide +kernel)) (by decide +kernel) (by decide +kernel) (by decide) (fun _ _ h => by rw [h.1]; rfl) (fun _ U U' hal hh h => ⟨h.1, h.2.1.mv hal hh, h.2.2.1, h.2.2.2.1.there hal hh, h.2.2.2.2⟩) (fun r U U' V V' h1 hal h2 h => XT.PureE.mv r U U' V V' h1 hal h2 h) ?_
  intro p e s m args below meth c s₁ X0 hexec hbytes hml hret hlk hnm hown hh0 W hP
  obtain ⟨rfl, hx, hc, s1, hz⟩ := hP
  have c1 : Steps p.tables e below (s₁.setTop (entryFrame m #[.ref x] 1)) (s₁.setTop (mkF m 0 #[.val (.ref x)] [])) := entry rfl
  obtain ⟨T2, X2, q2, st2⟩ := X0.sget hexec hown (wk W (.fieldLink "java/lang/String" 38 "java/lang/String" "COMPACT_STRINGS" "Z")) s1 (fun _ _ h => by rw [hh0]; exact h) (g := (mkF m 0 #[.val (.ref x)] [])) rfl (hb hbytes d0)
  have hh2 := q2.trans hh0
  have c3 : Steps p.tables e below (s₁.setTop (entryFrame m #[.ref x] 1)) (T2.setTop (mkF m 7 #[.val (.ref x)] [.ref x])) := (c1.trans (st2 _ (Steps.refl _))).trans (by
    refine XS.ifNo X2.here hexec rfl (hb hbytes d3) rfl (i0_eq_f hz) ?_
    refine XS.aloadN X2.here hexec rfl (hb hbytes d6) rfl rfl ?_
    exact Steps.refl _)
  obtain ⟨T4, X4, q4, st4⟩ := X2.hget hexec hown (wk W (.fieldLink "java/lang/String" 15 "java/lang/String" "coder" "B")) (hx.mv X2.warmed.alike hh2) (g := (mkF m 7 #[.val (.ref x)] [.ref x])) rfl (rest := []) rfl (hb hbytes d7)
  have c5 : Steps p.tables e below (s₁.setTop (entryFrame m #[.ref x] 1)) (T4.setTop (mkF m 14 #[.val (.ref x)] [.int cd])) := (c3.trans (st4 _ (Steps.refl _))).trans (by
    refine XS.goto X4.here hexec rfl (pc0 := 10) rfl (hb hbytes d10) (by decide) rfl ?_
    exact Steps.refl _)
  exact ⟨T4, some (.int cd), _, _, _, X4, rfl, rfl, rfl, (fun h => by cases h), ⟨rfl, q4.trans hh2⟩, fun fs hl => c5.trans (X4.ireturnOut hexec hret (by rcases hc with rfl | rfl <;> rfl) (Or.inr (Or.inr (Or.inl rfl))) (hb hbytes d14) hl)⟩
end Cdr
namespace Len
def yN : MethodName := ⟨"java/lang/String", "length", "()I"⟩
abbrev yB : ByteArray := jdk_42_method_54_code
theorem d0 : decode yB 0 = .ok (.aload_n 0, 1) := by decide +kernel
theorem d1 : decode yB 1 = .ok (.getfield 9, 3) := by decide +kernel
theorem d4 : decode yB 4 = .ok (.arraylength, 1) := by decide +kernel
theorem d5 : decode yB 5 = .ok (.aload_n 0, 1) := by decide +kernel
theorem d6 : decode yB 6 = .ok (.invokevirtual 335, 3) := by decide +kernel
theorem d9 : decode yB 9 = .ok (.ishr, 1) := by decide +kernel
theorem d10 : decode yB 10 = .ok (.ireturn, 1) := by decide +kernel
def site : List Cond := [.fieldLink "java/lang/String" 9 "java/lang/String" "value" "[B", Cdr.tab] ++ virtW "java/lang/String" 335 "java/lang/String" Cdr.yN Cdr.yN
def tab : Cond := tabOf yN yB 1 (some .int) site
def P (x t : Addr) (V : Cell) (cd : Int32) (n : Nat) (f : Nat → Int32) (z : Int32) (args : Array Value) (s : State) : Prop := args = #[.ref x] ∧ Txt x t V cd n f s ∧ StaticIs s "java/lang/String" "COMPACT_STRINGS" "Z" (.int z) ∧ ¬ z = 0
def E (n : Nat) (r : Option Value) (s u : State) : Prop := XT.PureE (some (.int (Int32.ofNat n))) r s u
/-- length() of a String of n chars, in either coding -/
theorem law (l : Launch) (x t : Addr) (V : Cell) (cd : Int32) (n : Nat) (f : Nat → Int32) (z : Int32) : Law l yN 1 0 1 13 yB 1 (some .int) site (P x t V cd n f z) (E n) [] 0 0 := by
  refine Law.of_walk (plainFor_of_name (by decide +kernel)) (by decide +kernel) (by decide +kernel) (by decide) (fun _ _ h => by rw [h.1]; rfl) (fun _ U U' hal hh h => ⟨h.1, h.2.1.mv hal hh, h.2.2.1.there hal hh, h.2.2.2⟩) (fun r U U' V V' h1 hal h2 h => XT.PureE.mv r U U' V V' h1 hal h2 h) ?_
  intro p e s m args below meth c s₁ X0 hexec hbytes hml hret hlk hnm hown hh0 W hP
  obtain ⟨rfl, hx, s1, hz⟩ := hP
  have v31 := hx.2.2.2.1.2.2.2
  have c1 : Steps p.tables e below (s₁.setTop (entryFrame m #[.ref x] 1)) (s₁.setTop (mkF m 1 #[.val (.ref x)] [.ref x])) := Steps.trans (entry rfl) (by
    show Steps p.tables e below (s₁.setTop (mkF m 0 #[.val (.ref x)] [])) _
    refine XS.aloadN X0.here hexec rfl (hb hbytes d0) rfl rfl ?_
    exact Steps.refl _)
  obtain ⟨T2, X2, q2, st2⟩ := X0.hget hexec hown (wk W (.fieldLink "java/lang/String" 9 "java/lang/String" "value" "[B")) (hx.mv X0.warmed.alike hh0).2.1 (g := (mkF m 1 #[.val (.ref x)] [.ref x])) rfl (rest := []) rfl (hb hbytes d1)
  have hh2 := q2.trans hh0
  have hx2 := hx.mv X2.warmed.alike hh2
  have c3 : Steps p.tables e below (s₁.setTop (entryFrame m #[.ref x] 1)) (T2.setTop (mkF m 6 #[.val (.ref x)] [.ref x, .int (Int32.ofNat V.slots.size)])) := (c1.trans (st2 _ (Steps.refl _))).trans (by
    refine X2.alen hexec hx2.2.2.2.1 rfl rfl (hb hbytes d4) ?_
    refine XS.aloadN X2.here hexec rfl (hb hbytes d5) rfl rfl ?_
    exact Steps.refl _)
  obtain ⟨v4, T4, X4, E4, g4⟩ := X2.callV hexec (Cdr.law l x cd z) hown (wks W (virtW "java/lang/String" 335 "java/lang/String" Cdr.yN Cdr.yN)) rfl (by decide) (wk W Cdr.tab) (W := 1) (Nat.le_of_ble_eq_true rfl) (Nat.le_of_ble_eq_true rfl) (Nat.le_refl _) (Nat.le_refl _) (hx2.1.fc X2.warmed.alike) hx2.1.is (g := (mkF m 6 #[.val (.ref x)] [.ref x, .int (Int32.ofNat V.slots.size)])) rfl (by rw [hml]; rfl) c3 (argsL := []) (rest := [.int (Int32.ofNat V.slots.size)]) rfl rfl (by show 2 * 0 + (1 + 0) ≤ _; decide) (hb hbytes d6) (⟨rfl, hx2.2.2.1, hx.2.2.2.2.1.cd, s1.there X2.warmed.alike hh2, hz⟩)
  obtain ⟨rfl, q4⟩ := E4
  have c5 : Steps p.tables e below (s₁.setTop (entryFrame m #[.ref x] 1)) (T4.setTop (mkF m 10 #[.val (.ref x)] [.int (Int32.ofNat V.slots.size >>> (cd &&& 31))])) := Steps.trans g4 (by
    refine ishr X4.here hexec rfl (hb hbytes d9) rfl ?_
    exact Steps.refl _)
  rw [hx.2.2.2.2.1.len v31] at c5
  exact ⟨T4, some (.int (Int32.ofNat n)), _, _, _, X4, rfl, rfl, rfl, (fun h => by cases h), ⟨rfl, q4.trans hh2⟩, fun fs hl => c5.trans (X4.ireturnOut hexec hret rfl (Or.inl rfl) (hb hbytes d10) hl)⟩
theorem pays {l : Launch} {R : Room} {p : Program} {e : Env} {below : List Frame} {s : State} {sargs : Array Value} {len W : Nat} (x t : Addr) (V : Cell) (cd : Int32) (n : Nat) (f : Nat → Int32) (z : Int32) (htab : tab.before sargs s = true) (hfr : 2 ≤ R.frames) (hlo : W + 25 ≤ R.locals) :
    Back l R p e below s sargs yN len W (fun A₁ a₁ => A₁.cells + 0 ≤ R.cells ∧ A₁.slots + 0 ≤ R.slots ∧ P x t V cd n f z a₁ A₁.U) (fun A₁ _ v₁ B₁ => E n v₁ A₁.U B₁.U ∧ B₁.locs = A₁.locs ++ [] ∧ B₁.cells = A₁.cells + 0 ∧ B₁.slots = A₁.slots + 0) :=
  (law l x t V cd n f z).pays htab hfr (by omega)
end Len
namespace IsL
def yN : MethodName := ⟨"java/lang/String", "isLatin1", "()Z"⟩
abbrev yB : ByteArray := jdk_42_method_154_code
theorem d0 : decode yB 0 = .ok (.getstatic 38, 3) := by decide +kernel
theorem d3 : decode yB 3 = .ok (.ifCond (.eq) 14, 3) := by decide +kernel
theorem d6 : decode yB 6 = .ok (.aload_n 0, 1) := by decide +kernel
theorem d7 : decode yB 7 = .ok (.getfield 15, 3) := by decide +kernel
theorem d10 : decode yB 10 = .ok (.ifCond (.ne) 7, 3) := by decide +kernel
theorem d13 : decode yB 13 = .ok (.iconst 1, 1) := by decide +kernel
theorem d14 : decode yB 14 = .ok (.goto 4, 3) := by decide +kernel
theorem d17 : decode yB 17 = .ok (.iconst 0, 1) := by decide +kernel
theorem d18 : decode yB 18 = .ok (.ireturn, 1) := by decide +kernel
def site : List Cond := [.fieldLink "java/lang/String" 38 "java/lang/String" "COMPACT_STRINGS" "Z", .fieldLink "java/lang/String" 15 "java/lang/String" "coder" "B"]
def tab : Cond := tabOf yN yB 1 (some .boolean) site
def P (x : Addr) (cd z : Int32) (args : Array Value) (s : State) : Prop := args = #[.ref x] ∧ Has x "java/lang/String" "coder" "B" (.int cd) s ∧ (cd = 0 ∨ cd = 1) ∧ StaticIs s "java/lang/String" "COMPACT_STRINGS" "Z" (.int z) ∧ ¬ z = 0
def E (cd : Int32) (r : Option Value) (s u : State) : Prop := XT.PureE (some (.int (1 - cd))) r s u
theorem law (l : Launch) (x : Addr) (cd z : Int32) : Law l yN 1 0 0 0 yB 1 (some .boolean) site (P x cd z) (E cd) [] 0 0 := by
  refine Law.of_walk (plainFor_of_name (by decide +kernel)) (by decide +kernel) (by decide +kernel) (by decide) (fun _ _ h => by rw [h.1]; rfl) (fun _ U U' hal hh h => ⟨h.1, h.2.1.mv hal hh, h.2.2.1, h.2.2.2.1.there hal hh, h.2.2.2.2⟩) (fun r U U' V V' h1 hal h2 h => XT.PureE.mv r U U' V V' h1 hal h2 h) ?_
  intro p e s m args below meth c s₁ X0 hexec hbytes hml hret hlk hnm hown hh0 W hP
  obtain ⟨rfl, hx, hc, s1, hz⟩ := hP
  have c1 : Steps p.tables e below (s₁.setTop (entryFrame m #[.ref x] 1)) (s₁.setTop (mkF m 0 #[.val (.ref x)] [])) := entry rfl
  obtain ⟨T2, X2, q2, st2⟩ := X0.sget hexec hown (wk W (.fieldLink "java/lang/String" 38 "java/lang/String" "COMPACT_STRINGS" "Z")) s1 (fun _ _ h => by rw [hh0]; exact h) (g := (mkF m 0 #[.val (.ref x)] [])) rfl (hb hbytes d0)
  have hh2 := q2.trans hh0
  have c3 : Steps p.tables e below (s₁.setTop (entryFrame m #[.ref x] 1)) (T2.setTop (mkF m 7 #[.val (.ref x)] [.ref x])) := (c1.trans (st2 _ (Steps.refl _))).trans (by
    refine XS.ifNo X2.here hexec rfl (hb hbytes d3) rfl (i0_eq_f hz) ?_
    refine XS.aloadN X2.here hexec rfl (hb hbytes d6) rfl rfl ?_
    exact Steps.refl _)
  obtain ⟨T4, X4, q4, st4⟩ := X2.hget hexec hown (wk W (.fieldLink "java/lang/String" 15 "java/lang/String" "coder" "B")) (hx.mv X2.warmed.alike hh2) (g := (mkF m 7 #[.val (.ref x)] [.ref x])) rfl (rest := []) rfl (hb hbytes d7)
  have c5 : Steps p.tables e below (s₁.setTop (entryFrame m #[.ref x] 1)) (T4.setTop (mkF m 10 #[.val (.ref x)] [.int cd])) := c3.trans (st4 _ (Steps.refl _))
  have c6 : Steps p.tables e below (s₁.setTop (entryFrame m #[.ref x] 1)) (T4.setTop (mkF m 18 #[.val (.ref x)] [.int (1 - cd)])) := by
    rcases hc with rfl | rfl
    · exact c5.trans (by
        refine XS.ifNo X4.here hexec rfl (hb hbytes d10) rfl (i0_ne_f rfl) ?_
        refine iconstV X4.here hexec rfl 1 (hb hbytes d13) (by decide) ?_
        refine XS.goto X4.here hexec rfl (pc0 := 14) rfl (hb hbytes d14) (by decide) rfl ?_
        exact Steps.refl _)
    · exact c5.trans (by
        refine XS.ifYes X4.here hexec rfl (pc0 := 10) rfl (hb hbytes d10) rfl (i0_ne_t (by decide)) (by decide) rfl ?_
        refine iconstV X4.here hexec rfl 0 (hb hbytes d17) (by decide) ?_
        exact Steps.refl _)
  exact ⟨T4, some (.int (1 - cd)), _, _, _, X4, rfl, rfl, rfl, (fun h => by cases h), ⟨rfl, q4.trans hh2⟩, fun fs hl => c6.trans (X4.ireturnOut hexec hret (by rcases hc with rfl | rfl <;> rfl) (Or.inr (Or.inl rfl)) (hb hbytes d18) hl)⟩
end IsL
namespace LChA
def yN : MethodName := ⟨"java/lang/StringLatin1", "charAt", "([BI)C"⟩
abbrev yB : ByteArray := jdk_43_method_2_code
theorem d0 : decode yB 0 = .ok (.iload_n 1, 1) := by decide +kernel
theorem d1 : decode yB 1 = .ok (.aload_n 0, 1) := by decide +kernel
theorem d2 : decode yB 2 = .ok (.arraylength, 1) := by decide +kernel
theorem d3 : decode yB 3 = .ok (.invokestatic 9, 3) := by decide +kernel
theorem d6 : decode yB 6 = .ok (.aload_n 0, 1) := by decide +kernel
theorem d7 : decode yB 7 = .ok (.iload_n 1, 1) := by decide +kernel
theorem d8 : decode yB 8 = .ok (.baload, 1) := by decide +kernel
theorem d9 : decode yB 9 = .ok (.sipush 255, 3) := by decide +kernel
theorem d12 : decode yB 12 = .ok (.iand, 1) := by decide +kernel
theorem d13 : decode yB 13 = .ok (.i2c, 1) := by decide +kernel
theorem d14 : decode yB 14 = .ok (.ireturn, 1) := by decide +kernel
def site : List Cond := [JO.Str_checkIndex.tab] ++ staticW "java/lang/StringLatin1" 9 JO.Str_checkIndex.yN
def tab : Cond := tabOf yN yB 2 (some .char) site
def P (t : Addr) (V : Cell) (i : Nat) (u : Int32) (fm : Value) (args : Array Value) (s : State) : Prop := args = #[.ref t, .int (Int32.ofNat i)] ∧ XT.Arr .byte t V s ∧ V.slots[i]? = some (.int u) ∧ (StaticIs s "jdk/internal/util/Preconditions" "SIOOBE_FORMATTER" "Ljava/util/function/BiFunction;" fm ∧ fm.isRef = true)
def E (u : Int32) (r : Option Value) (s w : State) : Prop := XT.PureE (some (.int (chr8 u))) r s w
theorem law (l : Launch) (t : Addr) (V : Cell) (i : Nat) (u : Int32) (fm : Value) : Law l yN 2 2 2 27 yB 2 (some .char) site (P t V i u fm) (E u) [] 0 0 := by
  refine Law.of_walk (plainFor_of_name (by decide +kernel)) (by decide +kernel) (by decide +kernel) (by decide) (fun _ _ h => by rw [h.1]; rfl) (fun _ U U' hal hh h => ⟨h.1, h.2.1.mv hal hh, h.2.2.1, h.2.2.2.1.there hal hh, h.2.2.2.2⟩) (fun r U U' V V' h1 hal h2 h => XT.PureE.mv r U U' V V' h1 hal h2 h) ?_
  intro p e s m args below meth c s₁ X0 hexec hbytes hml hret hlk hnm hown hh0 W hP
  obtain ⟨rfl, hV, hu, s1, rf⟩ := hP
  have v31 := hV.2.2.2
  have hi : i < V.slots.size := (Array.getElem?_eq_some_iff.mp hu).1
  have c1 : Steps p.tables e below (s₁.setTop (entryFrame m #[.ref t, .int (Int32.ofNat i)] 2)) (s₁.setTop (mkF m 0 #[.val (.ref t), .val (.int (Int32.ofNat i))] [])) := entry rfl
  have c2 : Steps p.tables e below (s₁.setTop (entryFrame m #[.ref t, .int (Int32.ofNat i)] 2)) (s₁.setTop (mkF m 3 #[.val (.ref t), .val (.int (Int32.ofNat i))] [.int (Int32.ofNat V.slots.size), .int (Int32.ofNat i)])) := c1.trans (by
    refine XS.iloadN X0.here hexec rfl (hb hbytes d0) rfl ?_
    refine XS.aloadN X0.here hexec rfl (hb hbytes d1) rfl rfl ?_
    refine X0.alen hexec (hV.mv X0.warmed.alike hh0) rfl rfl (hb hbytes d2) ?_
    exact Steps.refl _)
  obtain ⟨v3, T3, X3, E3, g3⟩ := X0.callS hexec (JO.Str_checkIndex.law l (Int32.ofNat i) (Int32.ofNat V.slots.size) fm) hown (wks W (staticW "java/lang/StringLatin1" 9 JO.Str_checkIndex.yN)) (wk W JO.Str_checkIndex.tab) (W := 0) (Nat.le_of_ble_eq_true rfl) (Nat.le_of_ble_eq_true rfl) (Nat.le_refl _) (Nat.le_refl _) (g := (mkF m 3 #[.val (.ref t), .val (.int (Int32.ofNat i))] [.int (Int32.ofNat V.slots.size), .int (Int32.ofNat i)])) rfl (by rw [hml]; rfl) c2 (argsL := [.int (Int32.ofNat i), .int (Int32.ofNat V.slots.size)]) (rest := []) rfl rfl (by show 2 * 0 + 0 ≤ _; decide) (hb hbytes d3) (⟨rfl, rf, s1.there X0.warmed.alike hh0, Int32.ofNat_not_neg (by omega), lt32 v31 hi⟩)
  obtain ⟨rfl, q3⟩ := E3
  have hh3 := q3.trans hh0
  have c4 : Steps p.tables e below (s₁.setTop (entryFrame m #[.ref t, .int (Int32.ofNat i)] 2)) (T3.setTop (mkF m 14 #[.val (.ref t), .val (.int (Int32.ofNat i))] [.int (chr8 u)])) := Steps.trans g3 (by
    refine XS.aloadN X3.here hexec rfl (hb hbytes d6) rfl rfl ?_
    refine XS.iloadN X3.here hexec rfl (hb hbytes d7) rfl ?_
    refine X3.aget hexec (hV.mv X3.warmed.alike hh3) rfl hu rfl rfl (hb hbytes d8) ?_
    refine sipushV X3.here hexec rfl 255 (hb hbytes d9) (by decide) ?_
    refine XS.iand X3.here hexec rfl (hb hbytes d12) rfl ?_
    refine i2c X3.here hexec rfl (hb hbytes d13) rfl ?_
    exact Steps.refl _)
  exact ⟨T3, some (.int (chr8 u)), _, _, _, X3, rfl, rfl, rfl, (fun h => by cases h), ⟨rfl, hh3⟩, fun fs hl => c4.trans (X3.ireturnOut hexec hret (narrow_c _) (Or.inr (Or.inr (Or.inr (Or.inl rfl)))) (hb hbytes d14) hl)⟩
end LChA
end StrChars
namespace StrChars.Road
open Jvm Sem ClassFile Op Lib Jvm.Stand Jvm.Free Jvm.Free.XT
open Jvm.Lib.Cold (StaticIs)
theorem consq {a : Array Value} {s : State} {c : Jvm.Cond} {L : List Jvm.Cond} (h0 : c.before a s = true) (h : ∀ w ∈ L, w.before a s = true) : ∀ w ∈ c :: L, w.before a s = true := fun w hw => (List.mem_cons.mp hw).elim (fun e => e ▸ h0) (h w)
/-- the words of String.length(), either coding -/
abbrev wordsLen : List Jvm.Cond := [.code Len.yN Len.yB 1 (some .int), .initialized ST, .fieldLink ST 9 ST "value" "[B", .fieldLink ST 38 ST "COMPACT_STRINGS" "Z", .fieldLink ST 15 ST "coder" "B", .code Cdr.yN Cdr.yB 1 (some .byte), .methodLink ST 335 Cdr.yN, .declares Cdr.yN, .selects ST Cdr.yN Cdr.yN, .instanceMethod Cdr.yN]
theorem tabLen_of {a : Array Value} {s : State} (h : ∀ w ∈ wordsLen, w.before a s = true) : Len.tab.before a s = true := by
  have hc : Cdr.tab.before a s = true := unparts (wk h (.code Cdr.yN Cdr.yB 1 (some .byte))) (wks h (.initialized Cdr.yN.cls :: Cdr.site))
  have q := consq hc h
  exact unparts (wk q (.code Len.yN Len.yB 1 (some .int))) (wks q (.initialized Len.yN.cls :: Len.site))
theorem movedLen {Z s : State} {a0 args : Array Value} (hZ : Z.Warmed39 s.vm) (hw : ∀ d ∈ wordsLen, d.before a0 Z = true) : ∀ d ∈ wordsLen, d.before args s = true := fun d hd => by
  have q := hw d hd
  have t : ∀ d ∈ wordsLen, d = .arrayClass .byte ∨ (d.onTables && d.keepsFace) = true := by decide +kernel
  rcases t d hd with rfl | t
  · exact RoadKit.mvA hZ q
  · exact RoadKit.mv hZ q t
/-- the bytes of the chars cs, low before high -/
def wideBytes : List Int32 → List Value
  | [] => []
  | c :: cs => .int (lo8 c) :: .int (hi8 c) :: wideBytes cs
theorem wide_lo (d : Value) : ∀ (cs : List Int32) (j : Nat), j < cs.length → (wideBytes cs).getD (2 * j) d = .int (lo8 (cs.getD j 0))
  | [], j, h => absurd h (Nat.not_lt_zero j)
  | c :: cs, 0, _ => rfl
  | c :: cs, j + 1, h => by
    have q := wide_lo d cs j (by simpa using h)
    rw [show 2 * (j + 1) = 2 * j + 1 + 1 from by omega]
    simpa [wideBytes] using q
theorem wide_hi (d : Value) : ∀ (cs : List Int32) (j : Nat), j < cs.length → (wideBytes cs).getD (2 * j + 1) d = .int (hi8 (cs.getD j 0))
  | [], j, h => absurd h (Nat.not_lt_zero j)
  | c :: cs, 0, _ => rfl
  | c :: cs, j + 1, h => by
    have q := wide_hi d cs j (by simpa using h)
    rw [show 2 * (j + 1) + 1 = 2 * j + 1 + 1 + 1 from by omega]
    simpa [wideBytes] using q
theorem low_at (d : Value) (cs : List Int32) (j : Nat) (h : j < cs.length) : (cs.map fun c => Value.int (lo8 c)).getD j d = .int (lo8 (cs.getD j 0)) := by
  simp [List.getD_eq_getElem?_getD, h]
/-- an array of N2 bytes vs codes the chars cs by the coder cd -/
def CodA (cs : List Int32) (cd N2 : Int32) (vs : List Value) : Prop := (cd = 0 ∧ N2 = Int32.ofNat cs.length ∧ vs = (cs.map fun c => Value.int (lo8 c)) ∧ ∀ c ∈ cs, ¬ 255 < c) ∨ (cd = 1 ∧ N2 = Int32.ofNat (2 * cs.length) ∧ vs = wideBytes cs ∧ ∃ c ∈ cs, 255 < c)
theorem CodA.cod {cs : List Int32} {cd N2 : Int32} {vs : List Value} {V : Cell} (h : CodA cs cd N2 vs) (hn : 2 * cs.length < 2 ^ 31) (hs : V.slots.size = N2.toNatClampNeg) (hv : RoadKit.Has V vs (.int 0)) : Cod cd cs.length (fun j => cs.getD j 0) V := by
  rcases h with ⟨rfl, rfl, rfl, h⟩ | ⟨rfl, rfl, rfl, c, hc, hw⟩
  · rw [n32 (by omega)] at hs
    exact Or.inl ⟨rfl, hs, fun j hj => ⟨by rw [hv j (by omega), low_at _ _ _ hj], by
      have e : cs.getD j 0 = cs[j] := by simp [List.getD_eq_getElem?_getD, hj]
      show ¬ 255 < cs.getD j 0
      rw [e]; exact h _ (List.getElem_mem _)⟩⟩
  · rw [n32 (by omega)] at hs
    obtain ⟨j, hj, rfl⟩ := List.getElem_of_mem hc
    exact Or.inr ⟨rfl, hs, fun j hj => ⟨by rw [hv _ (by omega), wide_lo _ _ _ hj], by rw [hv _ (by omega), wide_hi _ _ _ hj]⟩, j, hj, by
      have e : cs.getD j 0 = cs[j] := by simp [List.getD_eq_getElem?_getD, hj]
      show 255 < cs.getD j 0
      rw [e]; exact hw⟩
/-- an object of exactly java/lang/String, its two fields found: as the laws ask it -/
theorem strObj {Z U : State} {a0 : Array Value} {kI : Nat} (wi : (Jvm.Cond.instantiable ST kI).before a0 Z = true) (al : Z.vm.Alike U.vm) {x : Addr} {v0 c0 : Value} (E : RoadKit.Exa Z U.heap x ST) (V : RoadKit.Fld Z U.heap x ST "value" "[B" v0) (C : RoadKit.Fld Z U.heap x ST "coder" "B" c0) :
    ∃ (D : Cell) (fV fC : Field), Blank ST x D U ∧ Found ST "value" "[B" fV U ∧ Found ST "coder" "B" fC U ∧ D.slots[fV.slot]? = some v0 ∧ D.slots[fC.slot]? = some c0 ∧ RoadKit.slotOf Z ST "value" "[B" = fV.slot ∧ RoadKit.slotOf Z ST "coder" "B" = fC.slot := by
  obtain ⟨D, cfV, kV, iV, fV, hD, gV, stV, knV, obV, asV, slV⟩ := V
  obtain ⟨D', cfC, kC, iC, fC, hD', gC, stC, -, -, asC, slC⟩ := C
  cases hD.symm.trans hD'
  obtain ⟨D2, kD, e1, e2, e3, e4, e5⟩ := E
  cases hD.symm.trans e1
  obtain ⟨c2, k2, i1, i2, i3, -⟩ := Cond.instantiable_spec wi
  cases e2.symm.trans i1
  cases e3.symm.trans i2
  obtain ⟨kU, u1, u2⟩ := al.2.2 _ _ e3
  exact ⟨D, fV, fC, ⟨hD, ⟨knV, fun q hq => by rw [hq] at obV; cases obV⟩, by rw [al.findClass]; exact e2, kU, u1, by rw [u2]; exact i3, by rw [u2]; exact e5 i3⟩, ⟨SBG.found_only al ⟨cfV, kV, iV, gV⟩, stV⟩, ⟨SBG.found_only al ⟨cfC, kC, iC, gC⟩, stC⟩, slV, slC, by simp [RoadKit.slotOf, gV], by simp [RoadKit.slotOf, gC]⟩
theorem sta_is {Z U : State} (al : Z.vm.Alike U.vm) {C n d : String} {v : Value} (S : RoadKit.Sta Z U.heap C n d v) : StaticIs U C n d v := by
  obtain ⟨cfS, iS, kS, fS, st, cS, t1, t2, t3, t4, t5, t6, t7⟩ := S
  exact StaticIs.there (s := { Z with heap := U.heap }) ⟨cfS, iS, kS, fS, st, cS, t1, t2, t3, t4, t5, (fun q => by rw [q] at t6; cases t6), t7⟩ al rfl
/-- **length() OF SUCH A STRING** -/
theorem lenW {p : Program} {l : Launch} {e : Env} {R : Room} {s : State} {args : Array Value} {below : List Frame} {len W : Nat} {Z : State} {a0 : Array Value} {h : Heap} (hZ : Z.Warmed39 s.vm) (hw : ∀ d ∈ wordsLen, d.before a0 Z = true) {kI : Nat} (wi : (Jvm.Cond.instantiable ST kI).before a0 Z = true)
    {x t : Addr} {kb : ClassId} {cs : List Int32} {cd N2 z : Int32} {vs : List Value} (E : RoadKit.Exa Z h x ST) (V : RoadKit.Fld Z h x ST "value" "[B" (.ref t)) (C : RoadKit.Fld Z h x ST "coder" "B" (.int cd)) (K : RoadKit.Arv Z h t kb .byte N2 vs (.int 0)) (hc : CodA cs cd N2 vs) (hb : ∀ c ∈ cs, ¬ c < 0 ∧ ¬ (65535 : Int32) < c)
    (S : RoadKit.Sta Z h ST "COMPACT_STRINGS" "Z" (.int z)) (hz : ¬ z = 0) (l2 : cs.length ≤ 4000) (hfr : 2 ≤ R.frames) (hlo : W + 25 ≤ R.locals) :
    Back l R p e below s args (⟨"java/lang/String", "length", "()I"⟩ : MethodName) len W (fun P a => a = #[.ref x] ∧ P.U.heap = h ∧ P.cells + 0 ≤ R.cells ∧ P.slots + 0 ≤ R.slots)
      (fun P _ v B => ∃ L, (v = some (.int (Int32.ofNat cs.length)) ∧ L = [] ∧ B.U.heap = h) ∧ B.locs = P.locs ++ L ∧ B.cells = P.cells + 0 ∧ B.slots = P.slots + 0) := by
  obtain ⟨A, K1, K2, K3, K4, K5, K6⟩ := K
  have hcod := hc.cod (by omega) K3 K5
  intro m meth c P g ig mk a X hg hsize hdg hW hn hp'
  obtain ⟨rfl, rfl, r1, r2⟩ := hp'
  have al : Z.vm.Alike P.U.vm := hZ.alike.trans X.warmed.alike
  obtain ⟨D, fV, fC, hB, F1, F2, g1, g2, -, -⟩ := strObj wi al E V C
  have hx : Txt x t A cd cs.length (fun j => cs.getD j 0) P.U := ⟨⟨_, hB.2.2.1, D, hB.1, rfl, by cases q : D.vm <;> first | rfl | exact absurd q (hB.2.1.2 _)⟩, Has.of hB F1 g1, Has.of hB F2 g2, ⟨K1.1, State.isArrayOf_alike al K1.2.1, K1.2.2, by rcases hcod with ⟨-, q, -⟩ | ⟨-, q, -⟩ <;> omega⟩, hcod, fun j hj => by
    have e : cs.getD j 0 = cs[j] := by simp [List.getD_eq_getElem?_getD, hj]
    show ¬ cs.getD j 0 < 0 ∧ ¬ 65535 < cs.getD j 0
    rw [e]; exact hb _ (List.getElem_mem _)⟩
  obtain ⟨v, B, X', ⟨⟨hv, hh⟩, hl, hk, hs⟩, st⟩ := Len.pays x t A cd cs.length (fun j => cs.getD j 0) z (tabLen_of (movedLen hZ hw)) hfr hlo m meth c P g ig mk _ X hg hsize hdg hW hn ⟨r1, r2, rfl, hx, sta_is al S, hz⟩
  exact ⟨v, B, X', ⟨[], ⟨hv, rfl, hh⟩, hl, hk, hs⟩, st⟩
end StrChars.Road
namespace StrChars
open Jvm Sem ClassFile Op Lib Jvm.Stand Jvm.Free.XT Jvm.Free.ALB Jvm.Free.JM Jvm.Free
open Jvm.Lib.Cold (StaticIs)
/-- what place i of a byte[]'s cell holds -/
def yv (A : Cell) (i : Nat) : Int32 := match A.slots[i]? with | some (.int x) => x | _ => 0
theorem yv_get {a : Addr} {A : Cell} {U : State} (h : XT.Arr .byte a A U) (ht : Typed .byte A) {i : Nat} (hi : i < A.slots.size) : A.slots[i]? = some (.int (yv A i)) := by
  have e := Array.getElem?_eq_getElem hi
  have f := ht i _ e
  unfold yv; rw [e]
  generalize A.slots[i] = v at f
  cases v <;> simp [fits] at f ⊢
/-- the two arrays are equal, place for place -/
def EqC (A B : Cell) : Prop := A.slots.size = B.slots.size ∧ ∀ i, i < A.slots.size → yv A i = yv B i
/-- a boolean that says whether p -/
def Says01 (q : Prop) (r : Option Value) (s u : State) : Prop := ∃ v : Int32, r = some (.int v) ∧ u.heap = s.heap ∧ ((v = 1 ∧ q) ∨ (v = 0 ∧ ¬ q))
theorem Says01.mv {q : Prop} : ∀ r (U U' V V' : State), U'.heap = U.heap → V.vm.Alike V'.vm → V'.heap = V.heap → Says01 q r U V → Says01 q r U' V' :=
  fun r U U' V V' h1 _ h2 ⟨v, a, b, c⟩ => ⟨v, a, by rw [h1, h2]; exact b, c⟩
namespace LEq
def yN : MethodName := ⟨"java/lang/StringLatin1", "equals", "([B[B)Z"⟩
abbrev yB : ByteArray := jdk_43_method_13_code
theorem d0 : decode yB 0 = .ok (.aload_n 0, 1) := by decide +kernel
theorem d1 : decode yB 1 = .ok (.arraylength, 1) := by decide +kernel
theorem d2 : decode yB 2 = .ok (.aload_n 1, 1) := by decide +kernel
theorem d3 : decode yB 3 = .ok (.arraylength, 1) := by decide +kernel
theorem d4 : decode yB 4 = .ok (.if_icmp (.ne) 30, 3) := by decide +kernel
theorem d7 : decode yB 7 = .ok (.iconst 0, 1) := by decide +kernel
theorem d8 : decode yB 8 = .ok (.istore_n 2, 1) := by decide +kernel
theorem d9 : decode yB 9 = .ok (.iload_n 2, 1) := by decide +kernel
theorem d10 : decode yB 10 = .ok (.aload_n 0, 1) := by decide +kernel
theorem d11 : decode yB 11 = .ok (.arraylength, 1) := by decide +kernel
theorem d12 : decode yB 12 = .ok (.if_icmp (.ge) 20, 3) := by decide +kernel
theorem d15 : decode yB 15 = .ok (.aload_n 0, 1) := by decide +kernel
theorem d16 : decode yB 16 = .ok (.iload_n 2, 1) := by decide +kernel
theorem d17 : decode yB 17 = .ok (.baload, 1) := by decide +kernel
theorem d18 : decode yB 18 = .ok (.aload_n 1, 1) := by decide +kernel
theorem d19 : decode yB 19 = .ok (.iload_n 2, 1) := by decide +kernel
theorem d20 : decode yB 20 = .ok (.baload, 1) := by decide +kernel
theorem d21 : decode yB 21 = .ok (.if_icmp (.eq) 5, 3) := by decide +kernel
theorem d24 : decode yB 24 = .ok (.iconst 0, 1) := by decide +kernel
theorem d25 : decode yB 25 = .ok (.ireturn, 1) := by decide +kernel
theorem d26 : decode yB 26 = .ok (.iinc 2 1, 3) := by decide +kernel
theorem d29 : decode yB 29 = .ok (.goto (-20), 3) := by decide +kernel
theorem d32 : decode yB 32 = .ok (.iconst 1, 1) := by decide +kernel
theorem d33 : decode yB 33 = .ok (.ireturn, 1) := by decide +kernel
theorem d34 : decode yB 34 = .ok (.iconst 0, 1) := by decide +kernel
theorem d35 : decode yB 35 = .ok (.ireturn, 1) := by decide +kernel
def site : List Cond := []
def tab : Cond := tabOf yN yB 3 (some .boolean) site
def P (a : Addr) (A : Cell) (b : Addr) (B : Cell) (args : Array Value) (s : State) : Prop := args = #[.ref a, .ref b] ∧ XT.Arr .byte a A s ∧ Typed .byte A ∧ XT.Arr .byte b B s ∧ Typed .byte B
/-- whether two byte[] are equal, place for place -/
theorem law (l : Launch) (a : Addr) (A : Cell) (b : Addr) (B : Cell) : Law l yN 2 2 0 0 yB 3 (some .boolean) site (P a A b B) (Says01 (EqC A B)) [] 0 0 := by
  refine Law.of_walk (plainFor_of_name (by decide +kernel)) (by decide +kernel) (by decide +kernel) (by decide) (fun _ _ h => by rw [h.1]; rfl) (fun _ U U' hal hh h => ⟨h.1, h.2.1.mv hal hh, h.2.2.1, h.2.2.2.1.mv hal hh, h.2.2.2.2⟩) (fun r U U' V V' h1 hal h2 h => Says01.mv r U U' V V' h1 hal h2 h) ?_
  intro p e s m args below meth c s₁ X0 hexec hbytes hml hret hlk hnm hown hh0 W hP
  obtain ⟨rfl, hA, tA, hB, tB⟩ := hP
  have a31 := hA.2.2.2
  have b31 := hB.2.2.2
  have hA0 := hA.mv X0.warmed.alike hh0
  have hB0 := hB.mv X0.warmed.alike hh0
  have c1 : Steps p.tables e below (s₁.setTop (entryFrame m #[.ref a, .ref b] 3)) (s₁.setTop (mkF m 0 #[.val (.ref a), .val (.ref b), .unset] [])) := entry rfl
  have c2 : Steps p.tables e below (s₁.setTop (entryFrame m #[.ref a, .ref b] 3)) (s₁.setTop (mkF m 4 #[.val (.ref a), .val (.ref b), .unset] [.int (Int32.ofNat B.slots.size), .int (Int32.ofNat A.slots.size)])) := c1.trans (by
    refine XS.aloadN X0.here hexec rfl (hb hbytes d0) rfl rfl ?_
    refine X0.alen hexec hA0 rfl rfl (hb hbytes d1) ?_
    refine XS.aloadN X0.here hexec rfl (hb hbytes d2) rfl rfl ?_
    refine X0.alen hexec hB0 rfl rfl (hb hbytes d3) ?_
    exact Steps.refl _)
  by_cases hs : A.slots.size = B.slots.size
  · have c3 : Steps p.tables e below (s₁.setTop (entryFrame m #[.ref a, .ref b] 3)) (s₁.setTop (mkF m 9 #[.val (.ref a), .val (.ref b), .val (.int 0)] [])) := c2.trans (by
      refine XS.icmpNo X0.here hexec rfl (hb hbytes d4) rfl (ii_ne_f (by rw [hs])) ?_
      refine iconstV X0.here hexec rfl 0 (hb hbytes d7) (by decide) ?_
      refine XS.istoreN X0.here hexec rfl (hb hbytes d8) rfl rfl ?_
      exact Steps.refl _)
    have loop : ∀ (r i : Nat), i + r = A.slots.size → (∀ j, j < i → yv A j = yv B j) → Steps p.tables e below (s₁.setTop (entryFrame m #[.ref a, .ref b] 3)) (s₁.setTop (mkF m 9 #[.val (.ref a), .val (.ref b), .val (.int (Int32.ofNat i))] [])) → ∃ (pc : Nat) (Ls : Array Slot) (v : Int32), (pc = 25 ∨ pc = 33) ∧ ((v = 1 ∧ EqC A B) ∨ (v = 0 ∧ ¬ EqC A B)) ∧ Steps p.tables e below (s₁.setTop (entryFrame m #[.ref a, .ref b] 3)) (s₁.setTop (mkF m pc Ls [.int v])) := by
      intro r
      induction r with
      | zero =>
        intro i hi he cl
        exact ⟨33, _, 1, Or.inr rfl, Or.inl ⟨rfl, hs, fun j hj => he j (by omega)⟩, cl.trans (by
          refine XS.iloadN X0.here hexec rfl (hb hbytes d9) rfl ?_
          refine XS.aloadN X0.here hexec rfl (hb hbytes d10) rfl rfl ?_
          refine X0.alen hexec hA0 rfl rfl (hb hbytes d11) ?_
          refine XS.icmpYes X0.here hexec rfl (pc0 := 12) rfl (hb hbytes d12) rfl (ii_ge_t (nlt32 (by omega) (by omega))) (by decide) rfl ?_
          refine iconstV X0.here hexec rfl 1 (hb hbytes d32) (by decide) ?_
          exact Steps.refl _)⟩
      | succ r ih =>
        intro i hi he cl
        have c4 : Steps p.tables e below (s₁.setTop (entryFrame m #[.ref a, .ref b] 3)) (s₁.setTop (mkF m 21 #[.val (.ref a), .val (.ref b), .val (.int (Int32.ofNat i))] [.int (yv B i), .int (yv A i)])) := cl.trans (by
          refine XS.iloadN X0.here hexec rfl (hb hbytes d9) rfl ?_
          refine XS.aloadN X0.here hexec rfl (hb hbytes d10) rfl rfl ?_
          refine X0.alen hexec hA0 rfl rfl (hb hbytes d11) ?_
          refine XS.icmpNo X0.here hexec rfl (hb hbytes d12) rfl (ii_ge_f (lt32 (by omega) (by omega))) ?_
          refine XS.aloadN X0.here hexec rfl (hb hbytes d15) rfl rfl ?_
          refine XS.iloadN X0.here hexec rfl (hb hbytes d16) rfl ?_
          refine X0.aget hexec hA0 rfl (yv_get hA tA (i := i) (by omega)) rfl rfl (hb hbytes d17) ?_
          refine XS.aloadN X0.here hexec rfl (hb hbytes d18) rfl rfl ?_
          refine XS.iloadN X0.here hexec rfl (hb hbytes d19) rfl ?_
          refine X0.aget hexec hB0 rfl (yv_get hB tB (i := i) (by omega)) rfl rfl (hb hbytes d20) ?_
          exact Steps.refl _)
        by_cases hv : yv A i = yv B i
        · have c5 : Steps p.tables e below (s₁.setTop (entryFrame m #[.ref a, .ref b] 3)) (s₁.setTop (mkF m 9 #[.val (.ref a), .val (.ref b), .val (.int (Int32.ofNat i + 1))] [])) := c4.trans (by
            refine XS.icmpYes X0.here hexec rfl (pc0 := 21) rfl (hb hbytes d21) rfl (ii_eq_t hv) (by decide) rfl ?_
            refine iincV X0.here hexec rfl 1 (hb hbytes d26) (by decide) rfl rfl ?_
            refine XS.goto X0.here hexec rfl (pc0 := 29) rfl (hb hbytes d29) (by decide) rfl ?_
            exact Steps.refl _)
          rw [succ32] at c5
          exact ih (i + 1) (by omega) (fun j hj => by
            by_cases e : j = i
            · rw [e]; exact hv
            · exact he j (by omega)) c5
        · exact ⟨25, _, 0, Or.inl rfl, Or.inr ⟨rfl, fun q => hv (q.2 i (by omega))⟩, c4.trans (by
            refine XS.icmpNo X0.here hexec rfl (hb hbytes d21) rfl (ii_eq_f hv) ?_
            refine iconstV X0.here hexec rfl 0 (hb hbytes d24) (by decide) ?_
            exact Steps.refl _)⟩
    obtain ⟨pc, Ls, v, hpc, hv, cz⟩ := loop A.slots.size 0 (by omega) (fun j hj => absurd hj (Nat.not_lt_zero j)) c3
    have nv : narrow .boolean (.int v) = .int v := by rcases hv with ⟨rfl, -⟩ | ⟨rfl, -⟩ <;> rfl
    rcases hpc with rfl | rfl
    · exact ⟨s₁, some (.int v), _, _, _, X0, rfl, rfl, rfl, (fun h => by cases h), ⟨v, rfl, hh0, hv⟩, fun fs hl => cz.trans (X0.ireturnOut hexec hret nv (Or.inr (Or.inl rfl)) (hb hbytes d25) hl)⟩
    · exact ⟨s₁, some (.int v), _, _, _, X0, rfl, rfl, rfl, (fun h => by cases h), ⟨v, rfl, hh0, hv⟩, fun fs hl => cz.trans (X0.ireturnOut hexec hret nv (Or.inr (Or.inl rfl)) (hb hbytes d33) hl)⟩
  · have c3 : Steps p.tables e below (s₁.setTop (entryFrame m #[.ref a, .ref b] 3)) (s₁.setTop (mkF m 35 #[.val (.ref a), .val (.ref b), .unset] [.int 0])) := c2.trans (by
      refine XS.icmpYes X0.here hexec rfl (pc0 := 4) rfl (hb hbytes d4) rfl (ii_ne_t (ne32 a31 b31 hs)) (by decide) rfl ?_
      refine iconstV X0.here hexec rfl 0 (hb hbytes d34) (by decide) ?_
      exact Steps.refl _)
    exact ⟨s₁, some (.int 0), _, _, _, X0, rfl, rfl, rfl, (fun h => by cases h), ⟨0, rfl, hh0, Or.inr ⟨rfl, fun q => hs q.1⟩⟩, fun fs hl => c3.trans (X0.ireturnOut hexec hret rfl (Or.inr (Or.inl rfl)) (hb hbytes d35) hl)⟩
end LEq
theorem Cod.ty {cd : Int32} {n : Nat} {f : Nat → Int32} {V : Cell} (h : Cod cd n f V) : Typed .byte V := fun i v hv => by
  have hi : i < V.slots.size := (Array.getElem?_eq_some_iff.mp hv).1
  rcases h with ⟨-, k1, k2⟩ | ⟨-, k1, k2, -⟩
  · rw [(k2 i (by omega)).1] at hv; cases hv; exact fits_lo8 _
  · rcases Nat.mod_two_eq_zero_or_one i with e | e
    · obtain ⟨j, rfl⟩ : ∃ j, i = 2 * j := ⟨i / 2, by omega⟩
      rw [(k2 j (by omega)).1] at hv; cases hv; exact fits_lo8 _
    · obtain ⟨j, rfl⟩ : ∃ j, i = 2 * j + 1 := ⟨i / 2, by omega⟩
      rw [(k2 j (by omega)).2] at hv; cases hv; exact fits_lo8 _
/-- the same text -/
def SameT (n : Nat) (f : Nat → Int32) (k : Nat) (g : Nat → Int32) : Prop := n = k ∧ ∀ j, j < n → f j = g j
theorem lo8_inj {x y : Int32} (h0 : ¬ x < 0) (h1 : ¬ 255 < x) (k0 : ¬ y < 0) (k1 : ¬ 255 < y) (h : lo8 x = lo8 y) : x = y := by
  rw [← lo8_mask h0 h1, ← lo8_mask k0 k1, h]
/-- arrays coded by one coder are equal just where the texts are -/
theorem Cod.eqv {cd : Int32} {n k : Nat} {f g : Nat → Int32} {V V' : Cell} (h : Cod cd n f V) (h' : Cod cd k g V') (hf : ∀ j, j < n → ¬ f j < 0 ∧ ¬ 65535 < f j) (hg : ∀ j, j < k → ¬ g j < 0 ∧ ¬ 65535 < g j) : EqC V V' ↔ SameT n f k g := by
  have yvv : ∀ {W : Cell} {i : Nat} {x : Int32}, W.slots[i]? = some (.int x) → yv W i = x := fun q => by unfold yv; rw [q]
  rcases h with ⟨rfl, k1, k2⟩ | ⟨rfl, k1, k2, -⟩
  · rcases h' with ⟨-, m1, m2⟩ | ⟨e, -⟩
    · constructor
      · rintro ⟨e1, e2⟩
        refine ⟨by omega, fun j hj => ?_⟩
        have q := e2 j (by omega)
        rw [yvv (k2 j hj).1, yvv (m2 j (by omega)).1] at q
        exact lo8_inj (hf j hj).1 (k2 j hj).2 (hg j (by omega)).1 (m2 j (by omega)).2 q
      · rintro ⟨rfl, e2⟩
        refine ⟨by omega, fun j hj => ?_⟩
        rw [yvv (k2 j (by omega)).1, yvv (m2 j (by omega)).1, e2 j (by omega)]
    · exact absurd e (by decide)
  · rcases h' with ⟨e, -⟩ | ⟨-, m1, m2, -⟩
    · exact absurd e (by decide)
    · constructor
      · rintro ⟨e1, e2⟩
        refine ⟨by omega, fun j hj => ?_⟩
        have q1 := e2 (2 * j) (by omega)
        have q2 := e2 (2 * j + 1) (by omega)
        rw [yvv (k2 j hj).1, yvv (m2 j (by omega)).1] at q1
        rw [yvv (k2 j hj).2, yvv (m2 j (by omega)).2] at q2
        rw [← pair_says (hf j hj).1 (hf j hj).2, ← pair_says (hg j (by omega)).1 (hg j (by omega)).2, q1, q2]
      · rintro ⟨rfl, e2⟩
        refine ⟨by omega, fun i hi => ?_⟩
        rcases Nat.mod_two_eq_zero_or_one i with e | e
        · obtain ⟨j, rfl⟩ : ∃ j, i = 2 * j := ⟨i / 2, by omega⟩
          rw [yvv (k2 j (by omega)).1, yvv (m2 j (by omega)).1, e2 j (by omega)]
        · obtain ⟨j, rfl⟩ : ∃ j, i = 2 * j + 1 := ⟨i / 2, by omega⟩
          rw [yvv (k2 j (by omega)).2, yvv (m2 j (by omega)).2, e2 j (by omega)]
/-- two codings differ: so do the texts -/
theorem Cod.dif {cd cd' : Int32} {n k : Nat} {f g : Nat → Int32} {V V' : Cell} (h : Cod cd n f V) (h' : Cod cd' k g V') (hne : ¬ cd = cd') : ¬ SameT n f k g := by
  rintro ⟨rfl, e⟩
  rcases h with ⟨rfl, -, k2⟩ | ⟨rfl, -, -, j, hj, hw⟩
  · rcases h' with ⟨rfl, -⟩ | ⟨-, -, -, j, hj, hw⟩
    · exact hne rfl
    · exact (k2 j hj).2 (by rw [e j hj]; exact hw)
  · rcases h' with ⟨-, -, m2⟩ | ⟨rfl, -⟩
    · exact (m2 j hj).2 (by rw [← e j hj]; exact hw)
    · exact hne rfl
/-- an object of exactly C is an instance of C -/
theorem cinst {p : Program} {l : Launch} {e : Env} {R : Room} {s : State} {m : MethodId} {args : Array Value} {below : List Frame} {meth : Method} {c : Code} {T : State} {locs : List Loc} {cells slots : Nat} (X : Stand p l e R s m args below meth c T locs cells slots) (hexec : p.tables.exec = Jvm.exec) {own C : String} {index : Nat} (hown : s.vm.findClass own = some m.cls) (hlink : (Cond.classLink own index C).before args s = true) {a : Addr} (hE : Exact C a T)
    {g : JFrame} (hg : g.method = m) {rest : List Value} (hstack : g.stack = .ref a :: rest) (hdg : decode c.code g.pc = .ok (.instanceof index, 3)) :
    ∃ T', Stand p l e R s m args below meth c T' locs cells slots ∧ T'.heap = T.heap ∧ ∀ target, Steps p.tables e below (T'.setTop { g with pc := g.pc + 3, stack := .int 1 :: rest }) target → Steps p.tables e below (T.setTop g) target := by
  obtain ⟨cB, h1, D, h2, h3, h4⟩ := hE
  have h1' : s.vm.findClass C = some cB := by rw [← X.warmed.alike.findClass]; exact h1
  obtain ⟨vm', X', st⟩ := X.instanceofYes hexec hown hlink h2 h4 h1' (by rw [h3]; exact Jvm.Free.SB.assignable_self _ _) hg hstack hdg
  exact ⟨_, X', rfl, st⟩
theorem cself {p : Program} {l : Launch} {e : Env} {R : Room} {s : State} {m : MethodId} {args : Array Value} {below : List Frame} {meth : Method} {c : Code} {T : State} {locs : List Loc} {cells slots : Nat} (X : Stand p l e R s m args below meth c T locs cells slots) (hexec : p.tables.exec = Jvm.exec) {own C : String} {index : Nat} (hown : s.vm.findClass own = some m.cls) (hlink : (Cond.classLink own index C).before args s = true) {a : Addr} (hE : Exact C a T)
    {g : JFrame} (hg : g.method = m) {rest : List Value} (hstack : g.stack = .ref a :: rest) (hdg : decode c.code g.pc = .ok (.checkcast index, 3)) :
    ∃ T', Stand p l e R s m args below meth c T' locs cells slots ∧ T'.heap = T.heap ∧ ∀ target, Steps p.tables e below (T'.setTop { g with pc := g.pc + 3, stack := .ref a :: rest }) target → Steps p.tables e below (T.setTop g) target := by
  obtain ⟨cB, h1, D, h2, h3, h4⟩ := hE
  have h1' : s.vm.findClass C = some cB := by rw [← X.warmed.alike.findClass]; exact h1
  obtain ⟨vm', X', st⟩ := X.checkcastYes hexec hown hlink h2 h4 h1' (by rw [h3]; exact Jvm.Free.SB.assignable_self _ _) hg hstack hdg
  exact ⟨_, X', rfl, fun t h => st t (by rw [← hstack] at h; exact h)⟩
namespace SEq
def yN : MethodName := ⟨"java/lang/String", "equals", "(Ljava/lang/Object;)Z"⟩
abbrev yB : ByteArray := jdk_42_method_66_code
theorem d0 : decode yB 0 = .ok (.aload_n 0, 1) := by decide +kernel
theorem d1 : decode yB 1 = .ok (.aload_n 1, 1) := by decide +kernel
theorem d2 : decode yB 2 = .ok (.if_acmp (.ne) 5, 3) := by decide +kernel
theorem d5 : decode yB 5 = .ok (.iconst 1, 1) := by decide +kernel
theorem d6 : decode yB 6 = .ok (.ireturn, 1) := by decide +kernel
theorem d7 : decode yB 7 = .ok (.aload_n 1, 1) := by decide +kernel
theorem d8 : decode yB 8 = .ok (.instanceof 10, 3) := by decide +kernel
theorem d11 : decode yB 11 = .ok (.ifCond (.eq) 43, 3) := by decide +kernel
theorem d14 : decode yB 14 = .ok (.aload_n 1, 1) := by decide +kernel
theorem d15 : decode yB 15 = .ok (.checkcast 10, 3) := by decide +kernel
theorem d18 : decode yB 18 = .ok (.astore_n 2, 1) := by decide +kernel
theorem d19 : decode yB 19 = .ok (.getstatic 38, 3) := by decide +kernel
theorem d22 : decode yB 22 = .ok (.ifCond (.eq) 14, 3) := by decide +kernel
theorem d25 : decode yB 25 = .ok (.aload_n 0, 1) := by decide +kernel
theorem d26 : decode yB 26 = .ok (.getfield 15, 3) := by decide +kernel
theorem d29 : decode yB 29 = .ok (.aload_n 2, 1) := by decide +kernel
theorem d30 : decode yB 30 = .ok (.getfield 15, 3) := by decide +kernel
theorem d33 : decode yB 33 = .ok (.if_icmp (.ne) 21, 3) := by decide +kernel
theorem d36 : decode yB 36 = .ok (.aload_n 0, 1) := by decide +kernel
theorem d37 : decode yB 37 = .ok (.getfield 9, 3) := by decide +kernel
theorem d40 : decode yB 40 = .ok (.aload_n 2, 1) := by decide +kernel
theorem d41 : decode yB 41 = .ok (.getfield 9, 3) := by decide +kernel
theorem d44 : decode yB 44 = .ok (.invokestatic 541, 3) := by decide +kernel
theorem d47 : decode yB 47 = .ok (.ifCond (.eq) 7, 3) := by decide +kernel
theorem d50 : decode yB 50 = .ok (.iconst 1, 1) := by decide +kernel
theorem d51 : decode yB 51 = .ok (.goto 4, 3) := by decide +kernel
theorem d54 : decode yB 54 = .ok (.iconst 0, 1) := by decide +kernel
theorem d55 : decode yB 55 = .ok (.ireturn, 1) := by decide +kernel
def site : List Cond := [.classLink "java/lang/String" 10 "java/lang/String", .fieldLink "java/lang/String" 38 "java/lang/String" "COMPACT_STRINGS" "Z", .fieldLink "java/lang/String" 15 "java/lang/String" "coder" "B", .fieldLink "java/lang/String" 9 "java/lang/String" "value" "[B", LEq.tab] ++ staticW "java/lang/String" 541 LEq.yN
def tab : Cond := tabOf yN yB 3 (some .boolean) site
def P (x t : Addr) (V : Cell) (cd : Int32) (n : Nat) (f : Nat → Int32) (y t' : Addr) (V' : Cell) (cd' : Int32) (k : Nat) (g : Nat → Int32) (z : Int32) (args : Array Value) (s : State) : Prop := args = #[.ref x, .ref y] ∧ Txt x t V cd n f s ∧ Txt y t' V' cd' k g s ∧ StaticIs s "java/lang/String" "COMPACT_STRINGS" "Z" (.int z) ∧ ¬ z = 0
/-- equals(Object) of two Strings: whether the texts are the same -/
theorem law (l : Launch) (x t : Addr) (V : Cell) (cd : Int32) (n : Nat) (f : Nat → Int32) (y t' : Addr) (V' : Cell) (cd' : Int32) (k : Nat) (g : Nat → Int32) (z : Int32) : Law l yN 2 1 1 14 yB 3 (some .boolean) site (P x t V cd n f y t' V' cd' k g z) (Says01 (SameT n f k g)) [] 0 0 := by
  refine Law.of_walk (plainFor_of_name (by decide +kernel)) (by decide +kernel) (by decide +kernel) (by decide) (fun _ _ h => by rw [h.1]; rfl) (fun _ U U' hal hh h => ⟨h.1, h.2.1.mv hal hh, h.2.2.1.mv hal hh, h.2.2.2.1.there hal hh, h.2.2.2.2⟩) (fun r U U' V V' h1 hal h2 h => Says01.mv r U U' V V' h1 hal h2 h) ?_
  intro p e s m args below meth c s₁ X0 hexec hbytes hml hret hlk hnm hown hh0 W hP
  obtain ⟨rfl, hx, hy, s1, hz⟩ := hP
  have c1 : Steps p.tables e below (s₁.setTop (entryFrame m #[.ref x, .ref y] 3)) (s₁.setTop (mkF m 2 #[.val (.ref x), .val (.ref y), .unset] [.ref y, .ref x])) := Steps.trans (entry rfl) (by
    show Steps p.tables e below (s₁.setTop (mkF m 0 #[.val (.ref x), .val (.ref y), .unset] [])) _
    refine XS.aloadN X0.here hexec rfl (hb hbytes d0) rfl rfl ?_
    refine XS.aloadN X0.here hexec rfl (hb hbytes d1) rfl rfl ?_
    exact Steps.refl _)
  by_cases hxy : x = y
  · have c2 : Steps p.tables e below (s₁.setTop (entryFrame m #[.ref x, .ref y] 3)) (s₁.setTop (mkF m 6 #[.val (.ref x), .val (.ref y), .unset] [.int 1])) := c1.trans (by
      refine acmpNo X0.here hexec rfl (hb hbytes d2) rfl rfl rfl (by simp [acmp, hxy]) ?_
      refine iconstV X0.here hexec rfl 1 (hb hbytes d5) (by decide) ?_
      exact Steps.refl _)
    subst hxy
    have ec : cd = cd' := by
      obtain ⟨D, fd, a1, a2, a3⟩ := hx.2.2.1
      obtain ⟨D', fd', b1, b2, b3⟩ := hy.2.2.1
      cases a1.symm.trans b1
      obtain ⟨q1, q2, q3, q4⟩ := a2.1
      obtain ⟨r1, r2, r3, r4⟩ := b2.1
      cases q4.symm.trans r4
      cases a3.symm.trans b3; rfl
    have et : t = t' := by
      obtain ⟨D, fd, a1, a2, a3⟩ := hx.2.1
      obtain ⟨D', fd', b1, b2, b3⟩ := hy.2.1
      cases a1.symm.trans b1
      obtain ⟨q1, q2, q3, q4⟩ := a2.1
      obtain ⟨r1, r2, r3, r4⟩ := b2.1
      cases q4.symm.trans r4
      cases a3.symm.trans b3; rfl
    subst ec et
    have ev : V = V' := by cases hx.2.2.2.1.1.symm.trans hy.2.2.2.1.1; rfl
    subst ev
    have hs : SameT n f k g := (Cod.eqv hx.2.2.2.2.1 hy.2.2.2.2.1 hx.2.2.2.2.2 hy.2.2.2.2.2).mp ⟨rfl, fun _ _ => rfl⟩
    exact ⟨s₁, some (.int 1), _, _, _, X0, rfl, rfl, rfl, (fun h => by cases h), ⟨1, rfl, hh0, Or.inl ⟨rfl, hs⟩⟩, fun fs hl => c2.trans (X0.ireturnOut hexec hret rfl (Or.inr (Or.inl rfl)) (hb hbytes d6) hl)⟩
  · have c2 : Steps p.tables e below (s₁.setTop (entryFrame m #[.ref x, .ref y] 3)) (s₁.setTop (mkF m 8 #[.val (.ref x), .val (.ref y), .unset] [.ref y])) := c1.trans (by
      refine acmpYes X0.here hexec rfl (pc0 := 2) rfl (hb hbytes d2) rfl rfl rfl (by simp [acmp, hxy]) (by decide) rfl ?_
      refine XS.aloadN X0.here hexec rfl (hb hbytes d7) rfl rfl ?_
      exact Steps.refl _)
    obtain ⟨T3, X3, q3, st3⟩ := cinst X0 hexec hown (wk W (.classLink "java/lang/String" 10 "java/lang/String")) (hy.mv X0.warmed.alike hh0).1 (g := (mkF m 8 #[.val (.ref x), .val (.ref y), .unset] [.ref y])) rfl (rest := []) rfl (hb hbytes d8)
    have hh3 := q3.trans hh0
    have c4 : Steps p.tables e below (s₁.setTop (entryFrame m #[.ref x, .ref y] 3)) (T3.setTop (mkF m 15 #[.val (.ref x), .val (.ref y), .unset] [.ref y])) := (c2.trans (st3 _ (Steps.refl _))).trans (by
      refine XS.ifNo X3.here hexec rfl (hb hbytes d11) rfl (i0_eq_f (by decide)) ?_
      refine XS.aloadN X3.here hexec rfl (hb hbytes d14) rfl rfl ?_
      exact Steps.refl _)
    obtain ⟨T5, X5, q5, st5⟩ := cself X3 hexec hown (wk W (.classLink "java/lang/String" 10 "java/lang/String")) (hy.mv X3.warmed.alike hh3).1 (g := (mkF m 15 #[.val (.ref x), .val (.ref y), .unset] [.ref y])) rfl (rest := []) rfl (hb hbytes d15)
    have hh5 := q5.trans hh3
    have c6 : Steps p.tables e below (s₁.setTop (entryFrame m #[.ref x, .ref y] 3)) (T5.setTop (mkF m 19 #[.val (.ref x), .val (.ref y), .val (.ref y)] [])) := (c4.trans (st5 _ (Steps.refl _))).trans (by
      refine XS.astoreN X5.here hexec rfl (hb hbytes d18) rfl rfl rfl ?_
      exact Steps.refl _)
    obtain ⟨T7, X7, q7, st7⟩ := X5.sget hexec hown (wk W (.fieldLink "java/lang/String" 38 "java/lang/String" "COMPACT_STRINGS" "Z")) s1 (fun _ _ h => by rw [hh5]; exact h) (g := (mkF m 19 #[.val (.ref x), .val (.ref y), .val (.ref y)] [])) rfl (hb hbytes d19)
    have hh7 := q7.trans hh5
    have c8 : Steps p.tables e below (s₁.setTop (entryFrame m #[.ref x, .ref y] 3)) (T7.setTop (mkF m 26 #[.val (.ref x), .val (.ref y), .val (.ref y)] [.ref x])) := (c6.trans (st7 _ (Steps.refl _))).trans (by
      refine XS.ifNo X7.here hexec rfl (hb hbytes d22) rfl (i0_eq_f hz) ?_
      refine XS.aloadN X7.here hexec rfl (hb hbytes d25) rfl rfl ?_
      exact Steps.refl _)
    obtain ⟨T9, X9, q9, st9⟩ := X7.hget hexec hown (wk W (.fieldLink "java/lang/String" 15 "java/lang/String" "coder" "B")) (hx.mv X7.warmed.alike hh7).2.2.1 (g := (mkF m 26 #[.val (.ref x), .val (.ref y), .val (.ref y)] [.ref x])) rfl (rest := []) rfl (hb hbytes d26)
    have hh9 := q9.trans hh7
    have c10 : Steps p.tables e below (s₁.setTop (entryFrame m #[.ref x, .ref y] 3)) (T9.setTop (mkF m 30 #[.val (.ref x), .val (.ref y), .val (.ref y)] [.ref y, .int cd])) := (c8.trans (st9 _ (Steps.refl _))).trans (by
      refine XS.aloadN X9.here hexec rfl (hb hbytes d29) rfl rfl ?_
      exact Steps.refl _)
    obtain ⟨T11, X11, q11, st11⟩ := X9.hget hexec hown (wk W (.fieldLink "java/lang/String" 15 "java/lang/String" "coder" "B")) (hy.mv X9.warmed.alike hh9).2.2.1 (g := (mkF m 30 #[.val (.ref x), .val (.ref y), .val (.ref y)] [.ref y, .int cd])) rfl (rest := [.int cd]) rfl (hb hbytes d30)
    have hh11 := q11.trans hh9
    have c12 : Steps p.tables e below (s₁.setTop (entryFrame m #[.ref x, .ref y] 3)) (T11.setTop (mkF m 33 #[.val (.ref x), .val (.ref y), .val (.ref y)] [.int cd', .int cd])) := c10.trans (st11 _ (Steps.refl _))
    by_cases hcd : cd = cd'
    · subst hcd
      have c13 : Steps p.tables e below (s₁.setTop (entryFrame m #[.ref x, .ref y] 3)) (T11.setTop (mkF m 37 #[.val (.ref x), .val (.ref y), .val (.ref y)] [.ref x])) := c12.trans (by
        refine XS.icmpNo X11.here hexec rfl (hb hbytes d33) rfl (ii_ne_f rfl) ?_
        refine XS.aloadN X11.here hexec rfl (hb hbytes d36) rfl rfl ?_
        exact Steps.refl _)
      obtain ⟨T14, X14, q14, st14⟩ := X11.hget hexec hown (wk W (.fieldLink "java/lang/String" 9 "java/lang/String" "value" "[B")) (hx.mv X11.warmed.alike hh11).2.1 (g := (mkF m 37 #[.val (.ref x), .val (.ref y), .val (.ref y)] [.ref x])) rfl (rest := []) rfl (hb hbytes d37)
      have hh14 := q14.trans hh11
      have c15 : Steps p.tables e below (s₁.setTop (entryFrame m #[.ref x, .ref y] 3)) (T14.setTop (mkF m 41 #[.val (.ref x), .val (.ref y), .val (.ref y)] [.ref y, .ref t])) := (c13.trans (st14 _ (Steps.refl _))).trans (by
        refine XS.aloadN X14.here hexec rfl (hb hbytes d40) rfl rfl ?_
        exact Steps.refl _)
      obtain ⟨T16, X16, q16, st16⟩ := X14.hget hexec hown (wk W (.fieldLink "java/lang/String" 9 "java/lang/String" "value" "[B")) (hy.mv X14.warmed.alike hh14).2.1 (g := (mkF m 41 #[.val (.ref x), .val (.ref y), .val (.ref y)] [.ref y, .ref t])) rfl (rest := [.ref t]) rfl (hb hbytes d41)
      have hh16 := q16.trans hh14
      have c17 : Steps p.tables e below (s₁.setTop (entryFrame m #[.ref x, .ref y] 3)) (T16.setTop (mkF m 44 #[.val (.ref x), .val (.ref y), .val (.ref y)] [.ref t', .ref t])) := c15.trans (st16 _ (Steps.refl _))
      obtain ⟨v18, T18, X18, E18, g18⟩ := X16.callS hexec (LEq.law l t V t' V') hown (wks W (staticW "java/lang/String" 541 LEq.yN)) (wk W LEq.tab) (W := 0) (Nat.le_of_ble_eq_true rfl) (Nat.le_of_ble_eq_true rfl) (Nat.le_refl _) (Nat.le_refl _) (g := (mkF m 44 #[.val (.ref x), .val (.ref y), .val (.ref y)] [.ref t', .ref t])) rfl (by rw [hml]; rfl) c17 (argsL := [.ref t, .ref t']) (rest := []) rfl rfl (by show 2 * 0 + 0 ≤ _; decide) (hb hbytes d44) (⟨rfl, hx.2.2.2.1.mv X16.warmed.alike hh16, hx.2.2.2.2.1.ty, hy.2.2.2.1.mv X16.warmed.alike hh16, hy.2.2.2.2.1.ty⟩)
      obtain ⟨v, rfl, q18, hv⟩ := E18
      have iff := Cod.eqv hx.2.2.2.2.1 hy.2.2.2.2.1 hx.2.2.2.2.2 hy.2.2.2.2.2
      rcases hv with ⟨rfl, he⟩ | ⟨rfl, he⟩
      · have c19 : Steps p.tables e below (s₁.setTop (entryFrame m #[.ref x, .ref y] 3)) (T18.setTop (mkF m 55 #[.val (.ref x), .val (.ref y), .val (.ref y)] [.int 1])) := Steps.trans g18 (by
          refine XS.ifNo X18.here hexec rfl (hb hbytes d47) rfl (i0_eq_f (by decide)) ?_
          refine iconstV X18.here hexec rfl 1 (hb hbytes d50) (by decide) ?_
          refine XS.goto X18.here hexec rfl (pc0 := 51) rfl (hb hbytes d51) (by decide) rfl ?_
          exact Steps.refl _)
        exact ⟨T18, some (.int 1), _, _, _, X18, rfl, rfl, rfl, (fun h => by cases h), ⟨1, rfl, q18.trans hh16, Or.inl ⟨rfl, iff.mp he⟩⟩, fun fs hl => c19.trans (X18.ireturnOut hexec hret rfl (Or.inr (Or.inl rfl)) (hb hbytes d55) hl)⟩
      · have c19 : Steps p.tables e below (s₁.setTop (entryFrame m #[.ref x, .ref y] 3)) (T18.setTop (mkF m 55 #[.val (.ref x), .val (.ref y), .val (.ref y)] [.int 0])) := Steps.trans g18 (by
          refine XS.ifYes X18.here hexec rfl (pc0 := 47) rfl (hb hbytes d47) rfl (i0_eq_t rfl) (by decide) rfl ?_
          refine iconstV X18.here hexec rfl 0 (hb hbytes d54) (by decide) ?_
          exact Steps.refl _)
        exact ⟨T18, some (.int 0), _, _, _, X18, rfl, rfl, rfl, (fun h => by cases h), ⟨0, rfl, q18.trans hh16, Or.inr ⟨rfl, fun q => he (iff.mpr q)⟩⟩, fun fs hl => c19.trans (X18.ireturnOut hexec hret rfl (Or.inr (Or.inl rfl)) (hb hbytes d55) hl)⟩
    · have c13 : Steps p.tables e below (s₁.setTop (entryFrame m #[.ref x, .ref y] 3)) (T11.setTop (mkF m 55 #[.val (.ref x), .val (.ref y), .val (.ref y)] [.int 0])) := c12.trans (by
        refine XS.icmpYes X11.here hexec rfl (pc0 := 33) rfl (hb hbytes d33) rfl (ii_ne_t hcd) (by decide) rfl ?_
        refine iconstV X11.here hexec rfl 0 (hb hbytes d54) (by decide) ?_
        exact Steps.refl _)
      exact ⟨T11, some (.int 0), _, _, _, X11, rfl, rfl, rfl, (fun h => by cases h), ⟨0, rfl, hh11, Or.inr ⟨rfl, Cod.dif hx.2.2.2.2.1 hy.2.2.2.2.1 hcd⟩⟩, fun fs hl => c13.trans (X11.ireturnOut hexec hret rfl (Or.inr (Or.inl rfl)) (hb hbytes d55) hl)⟩
theorem pays {l : Launch} {R : Room} {p : Program} {e : Env} {below : List Frame} {s : State} {sargs : Array Value} {len W : Nat} (x t : Addr) (V : Cell) (cd : Int32) (n : Nat) (f : Nat → Int32) (y t' : Addr) (V' : Cell) (cd' : Int32) (k : Nat) (g : Nat → Int32) (z : Int32) (htab : tab.before sargs s = true) (hfr : 2 ≤ R.frames) (hlo : W + 28 ≤ R.locals) :
    Back l R p e below s sargs yN len W (fun A₁ a₁ => A₁.cells + 0 ≤ R.cells ∧ A₁.slots + 0 ≤ R.slots ∧ P x t V cd n f y t' V' cd' k g z a₁ A₁.U) (fun A₁ _ v₁ B₁ => Says01 (SameT n f k g) v₁ A₁.U B₁.U ∧ B₁.locs = A₁.locs ++ [] ∧ B₁.cells = A₁.cells + 0 ∧ B₁.slots = A₁.slots + 0) :=
  (law l x t V cd n f y t' V' cd' k g z).pays htab hfr (by omega)
end SEq
end StrChars
namespace StrChars.Road
open Jvm Sem ClassFile Op Lib Jvm.Stand Jvm.Free Jvm.Free.XT
open Jvm.Lib.Cold (StaticIs)
/-- the words of String.equals(Object) -/
abbrev wordsEq : List Jvm.Cond := [.code SEq.yN SEq.yB 3 (some .boolean), .initialized ST, .classLink ST 10 ST, .fieldLink ST 38 ST "COMPACT_STRINGS" "Z", .fieldLink ST 15 ST "coder" "B", .fieldLink ST 9 ST "value" "[B", .methodLink ST 541 LEq.yN, .static LEq.yN, .code LEq.yN LEq.yB 3 (some .boolean), .initialized "java/lang/StringLatin1"]
theorem tabEq_of {a : Array Value} {s : State} (h : ∀ w ∈ wordsEq, w.before a s = true) : SEq.tab.before a s = true := by
  have hl : LEq.tab.before a s = true := unparts (wk h (.code LEq.yN LEq.yB 3 (some .boolean))) (wks h (.initialized LEq.yN.cls :: LEq.site))
  have q := consq hl h
  exact unparts (wk q (.code SEq.yN SEq.yB 3 (some .boolean))) (wks q (.initialized SEq.yN.cls :: SEq.site))
theorem movedEq {Z s : State} {a0 args : Array Value} (hZ : Z.Warmed39 s.vm) (hw : ∀ d ∈ wordsEq, d.before a0 Z = true) : ∀ d ∈ wordsEq, d.before args s = true := fun d hd => by
  have t : ∀ d ∈ wordsEq, (d.onTables && d.keepsFace) = true := by decide +kernel
  exact RoadKit.mv hZ (hw d hd) (t d hd)
/-- the road's facts of a String, as the laws ask it -/
theorem txt_of {Z U : State} {a0 : Array Value} {kI : Nat} (wi : (Jvm.Cond.instantiable ST kI).before a0 Z = true) (al : Z.vm.Alike U.vm) {x t : Addr} {kb : ClassId} {cs : List Int32} {cd N2 : Int32} {vs : List Value} (E : RoadKit.Exa Z U.heap x ST) (V : RoadKit.Fld Z U.heap x ST "value" "[B" (.ref t)) (C : RoadKit.Fld Z U.heap x ST "coder" "B" (.int cd)) (K : RoadKit.Arv Z U.heap t kb .byte N2 vs (.int 0)) (hc : CodA cs cd N2 vs) (hb : ∀ c ∈ cs, ¬ c < 0 ∧ ¬ (65535 : Int32) < c) (l2 : cs.length ≤ 4000) :
    ∃ A, Txt x t A cd cs.length (fun j => cs.getD j 0) U := by
  obtain ⟨A, K1, K2, K3, K4, K5, K6⟩ := K
  have hcod := hc.cod (by omega) K3 K5
  obtain ⟨D, fV, fC, hB, F1, F2, g1, g2, -, -⟩ := strObj wi al E V C
  exact ⟨A, ⟨_, hB.2.2.1, D, hB.1, rfl, by cases q : D.vm <;> first | rfl | exact absurd q (hB.2.1.2 _)⟩, Has.of hB F1 g1, Has.of hB F2 g2, ⟨K1.1, State.isArrayOf_alike al K1.2.1, K1.2.2, by rcases hcod with ⟨-, q, -⟩ | ⟨-, q, -⟩ <;> omega⟩, hcod, fun j hj => by
    have e : cs.getD j 0 = cs[j] := by simp [List.getD_eq_getElem?_getD, hj]
    show ¬ cs.getD j 0 < 0 ∧ ¬ 65535 < cs.getD j 0
    rw [e]; exact hb _ (List.getElem_mem _)⟩
theorem same_list (cs ds : List Int32) : SameT cs.length (fun j => cs.getD j 0) ds.length (fun j => ds.getD j 0) ↔ cs = ds := by
  constructor
  · rintro ⟨e, q⟩
    refine List.ext_getElem e fun j h1 h2 => ?_
    have := q j h1
    simpa [List.getD_eq_getElem?_getD, h1, h2] using this
  · rintro rfl
    exact ⟨rfl, fun _ _ => rfl⟩
/-- **equals(Object) OF TWO SUCH STRINGS**: 1 just where the chars are the same -/
theorem eqW {p : Program} {l : Launch} {e : Env} {R : Room} {s : State} {args : Array Value} {below : List Frame} {len W : Nat} {Z : State} {a0 : Array Value} {h : Heap} (hZ : Z.Warmed39 s.vm) (hw : ∀ d ∈ wordsEq, d.before a0 Z = true) {kI : Nat} (wi : (Jvm.Cond.instantiable ST kI).before a0 Z = true)
    {x t : Addr} {kb : ClassId} {cs : List Int32} {cd N2 : Int32} {vs : List Value} (E : RoadKit.Exa Z h x ST) (V : RoadKit.Fld Z h x ST "value" "[B" (.ref t)) (C : RoadKit.Fld Z h x ST "coder" "B" (.int cd)) (K : RoadKit.Arv Z h t kb .byte N2 vs (.int 0)) (hc : CodA cs cd N2 vs) (hb : ∀ c ∈ cs, ¬ c < 0 ∧ ¬ (65535 : Int32) < c) (l2 : cs.length ≤ 4000)
    {y t' : Addr} {kb' : ClassId} {ds : List Int32} {cd' N2' : Int32} {vs' : List Value} (E' : RoadKit.Exa Z h y ST) (V' : RoadKit.Fld Z h y ST "value" "[B" (.ref t')) (C' : RoadKit.Fld Z h y ST "coder" "B" (.int cd')) (K' : RoadKit.Arv Z h t' kb' .byte N2' vs' (.int 0)) (hc' : CodA ds cd' N2' vs') (hb' : ∀ c ∈ ds, ¬ c < 0 ∧ ¬ (65535 : Int32) < c) (l2' : ds.length ≤ 4000)
    {z : Int32} (S : RoadKit.Sta Z h ST "COMPACT_STRINGS" "Z" (.int z)) (hz : ¬ z = 0) (hfr : 2 ≤ R.frames) (hlo : W + 28 ≤ R.locals) :
    Back l R p e below s args (⟨"java/lang/String", "equals", "(Ljava/lang/Object;)Z"⟩ : MethodName) len W (fun P a => a = #[.ref x, .ref y] ∧ P.U.heap = h ∧ P.cells + 0 ≤ R.cells ∧ P.slots + 0 ≤ R.slots)
      (fun P _ v B => ∃ L, (((v = some (.int 1) ∧ cs = ds) ∨ (v = some (.int 0) ∧ ¬ cs = ds)) ∧ L = [] ∧ B.U.heap = h) ∧ B.locs = P.locs ++ L ∧ B.cells = P.cells + 0 ∧ B.slots = P.slots + 0) := by
  intro m meth c P g ig mk a X hg hsize hdg hW hn hp'
  obtain ⟨rfl, rfl, r1, r2⟩ := hp'
  have al : Z.vm.Alike P.U.vm := hZ.alike.trans X.warmed.alike
  obtain ⟨A, hx⟩ := txt_of wi al E V C K hc hb l2
  obtain ⟨A', hy⟩ := txt_of wi al E' V' C' K' hc' hb' l2'
  obtain ⟨v, B, X', ⟨⟨w, hv, hh, hq⟩, hl, hk, hs⟩, st⟩ := SEq.pays x t A cd cs.length (fun j => cs.getD j 0) y t' A' cd' ds.length (fun j => ds.getD j 0) z (tabEq_of (movedEq hZ hw)) hfr hlo m meth c P g ig mk _ X hg hsize hdg hW hn ⟨r1, r2, rfl, hx, hy, sta_is al S, hz⟩
  refine ⟨v, B, X', ⟨[], ⟨?_, rfl, hh⟩, hl, hk, hs⟩, st⟩
  rcases hq with ⟨rfl, q⟩ | ⟨rfl, q⟩
  · exact Or.inl ⟨hv, (same_list cs ds).mp q⟩
  · exact Or.inr ⟨hv, fun e => q ((same_list cs ds).mpr e)⟩
end StrChars.Road
namespace StrChars
open Jvm Sem ClassFile Op Lib Jvm.Stand Jvm.Free.XT Jvm.Free.ALB Jvm.Free.JM Jvm.Free
open Jvm.Lib.Cold (StaticIs)
namespace ChN
def yN : MethodName := ⟨"java/lang/String", "charAt", "(I)C"⟩
abbrev yB : ByteArray := jdk_42_method_56_code
theorem d0 : decode yB 0 = .ok (.aload_n 0, 1) := by decide +kernel
theorem d1 : decode yB 1 = .ok (.invokevirtual 492, 3) := by decide +kernel
theorem d4 : decode yB 4 = .ok (.ifCond (.eq) 12, 3) := by decide +kernel
theorem d7 : decode yB 7 = .ok (.aload_n 0, 1) := by decide +kernel
theorem d8 : decode yB 8 = .ok (.getfield 9, 3) := by decide +kernel
theorem d11 : decode yB 11 = .ok (.iload_n 1, 1) := by decide +kernel
theorem d12 : decode yB 12 = .ok (.invokestatic 495, 3) := by decide +kernel
theorem d15 : decode yB 15 = .ok (.ireturn, 1) := by decide +kernel
def site : List Cond := [.fieldLink "java/lang/String" 9 "java/lang/String" "value" "[B", IsL.tab, LChA.tab] ++ virtW "java/lang/String" 492 "java/lang/String" IsL.yN IsL.yN ++ staticW "java/lang/String" 495 LChA.yN
def tab : Cond := tabOf yN yB 2 (some .char) site
def P (x t : Addr) (V : Cell) (n : Nat) (f : Nat → Int32) (z : Int32) (fm : Value) (i : Nat) (args : Array Value) (s : State) : Prop := args = #[.ref x, .int (Int32.ofNat i)] ∧ Txt x t V 0 n f s ∧ i < n ∧ StaticIs s "java/lang/String" "COMPACT_STRINGS" "Z" (.int z) ∧ ¬ z = 0 ∧ StaticIs s "jdk/internal/util/Preconditions" "SIOOBE_FORMATTER" "Ljava/util/function/BiFunction;" fm ∧ fm.isRef = true
def E (f : Nat → Int32) (i : Nat) (r : Option Value) (s u : State) : Prop := XT.PureE (some (.int (f i))) r s u
/-- charAt(i) of a Latin-1 String of n chars, i < n: f i -/
theorem law (l : Launch) (x t : Addr) (V : Cell) (n : Nat) (f : Nat → Int32) (z : Int32) (fm : Value) (i : Nat) : Law l yN 2 1 3 40 yB 2 (some .char) site (P x t V n f z fm i) (E f i) [] 0 0 := by
  refine Law.of_walk (plainFor_of_name (by decide +kernel)) (by decide +kernel) (by decide +kernel) (by decide) (fun _ _ h => by rw [h.1]; rfl) (fun _ U U' hal hh h => ⟨h.1, h.2.1.mv hal hh, h.2.2.1, h.2.2.2.1.there hal hh, h.2.2.2.2.1, h.2.2.2.2.2.1.there hal hh, h.2.2.2.2.2.2⟩) (fun r U U' V V' h1 hal h2 h => XT.PureE.mv r U U' V V' h1 hal h2 h) ?_
  intro p e s m args below meth c s₁ X0 hexec hbytes hml hret hlk hnm hown hh0 W hP
  obtain ⟨rfl, hx, hi, s1, hz, s3, rf⟩ := hP
  have v31 := hx.2.2.2.1.2.2.2
  have hr := hx.2.2.2.2.2 i hi
  have hx0 := hx.mv X0.warmed.alike hh0
  have c1 : Steps p.tables e below (s₁.setTop (entryFrame m #[.ref x, .int (Int32.ofNat i)] 2)) (s₁.setTop (mkF m 1 #[.val (.ref x), .val (.int (Int32.ofNat i))] [.ref x])) := Steps.trans (entry rfl) (by
    show Steps p.tables e below (s₁.setTop (mkF m 0 #[.val (.ref x), .val (.int (Int32.ofNat i))] [])) _
    refine XS.aloadN X0.here hexec rfl (hb hbytes d0) rfl rfl ?_
    exact Steps.refl _)
  obtain ⟨v2, T2, X2, E2, g2⟩ := X0.callV hexec (IsL.law l x 0 z) hown (wks W (virtW "java/lang/String" 492 "java/lang/String" IsL.yN IsL.yN)) rfl (by decide) (wk W IsL.tab) (W := 0) (Nat.le_of_ble_eq_true rfl) (Nat.le_of_ble_eq_true rfl) (Nat.le_refl _) (Nat.le_refl _) (hx0.1.fc X0.warmed.alike) hx0.1.is (g := (mkF m 1 #[.val (.ref x), .val (.int (Int32.ofNat i))] [.ref x])) rfl (by rw [hml]; rfl) c1 (argsL := []) (rest := []) rfl rfl (by show 2 * 0 + 0 ≤ _; decide) (hb hbytes d1) (⟨rfl, hx0.2.2.1, hx.2.2.2.2.1.cd, s1.there X0.warmed.alike hh0, hz⟩)
  obtain ⟨rfl, q2⟩ := E2
  have hh2 := q2.trans hh0
  have hx2 := hx.mv X2.warmed.alike hh2
  obtain ⟨-, k1, k2⟩ | ⟨k0, -⟩ := hx.2.2.2.2.1
  · have c3 : Steps p.tables e below (s₁.setTop (entryFrame m #[.ref x, .int (Int32.ofNat i)] 2)) (T2.setTop (mkF m 8 #[.val (.ref x), .val (.int (Int32.ofNat i))] [.ref x])) := Steps.trans g2 (by
      refine XS.ifNo X2.here hexec rfl (hb hbytes d4) rfl (i0_eq_f (by decide)) ?_
      refine XS.aloadN X2.here hexec rfl (hb hbytes d7) rfl rfl ?_
      exact Steps.refl _)
    obtain ⟨T4, X4, q4, st4⟩ := X2.hget hexec hown (wk W (.fieldLink "java/lang/String" 9 "java/lang/String" "value" "[B")) hx2.2.1 (g := (mkF m 8 #[.val (.ref x), .val (.int (Int32.ofNat i))] [.ref x])) rfl (rest := []) rfl (hb hbytes d8)
    have hh4 := q4.trans hh2
    have c5 : Steps p.tables e below (s₁.setTop (entryFrame m #[.ref x, .int (Int32.ofNat i)] 2)) (T4.setTop (mkF m 12 #[.val (.ref x), .val (.int (Int32.ofNat i))] [.int (Int32.ofNat i), .ref t])) := (c3.trans (st4 _ (Steps.refl _))).trans (by
      refine XS.iloadN X4.here hexec rfl (hb hbytes d11) rfl ?_
      exact Steps.refl _)
    obtain ⟨v6, T6, X6, E6, g6⟩ := X4.callS hexec (LChA.law l t V i (lo8 (f i)) fm) hown (wks W (staticW "java/lang/String" 495 LChA.yN)) (wk W LChA.tab) (W := 0) (Nat.le_of_ble_eq_true rfl) (Nat.le_of_ble_eq_true rfl) (Nat.le_refl _) (Nat.le_refl _) (g := (mkF m 12 #[.val (.ref x), .val (.int (Int32.ofNat i))] [.int (Int32.ofNat i), .ref t])) rfl (by rw [hml]; rfl) c5 (argsL := [.ref t, .int (Int32.ofNat i)]) (rest := []) rfl rfl (by show 2 * 0 + 0 ≤ _; decide) (hb hbytes d12) (⟨rfl, hx.2.2.2.1.mv X4.warmed.alike hh4, (k2 i hi).1, s3.there X4.warmed.alike hh4, rf⟩)
    obtain ⟨rfl, q6⟩ := E6
    rw [chr8_lo8 hr.1 (k2 i hi).2] at g6
    exact ⟨T6, some (.int (f i)), _, _, _, X6, rfl, rfl, rfl, (fun h => by cases h), ⟨rfl, q6.trans hh4⟩, fun fs hl => Steps.trans g6 (X6.ireturnOut hexec hret (narrow_ch hr.1 hr.2) (Or.inr (Or.inr (Or.inr (Or.inl rfl)))) (hb hbytes d15) hl)⟩
  · exact absurd k0 (by decide)
theorem pays {l : Launch} {R : Room} {p : Program} {e : Env} {below : List Frame} {s : State} {sargs : Array Value} {len W : Nat} (x t : Addr) (V : Cell) (n : Nat) (f : Nat → Int32) (z : Int32) (fm : Value) (i : Nat) (htab : tab.before sargs s = true) (hfr : 4 ≤ R.frames) (hlo : W + 53 ≤ R.locals) :
    Back l R p e below s sargs yN len W (fun A₁ a₁ => A₁.cells + 0 ≤ R.cells ∧ A₁.slots + 0 ≤ R.slots ∧ P x t V n f z fm i a₁ A₁.U) (fun A₁ _ v₁ B₁ => E f i v₁ A₁.U B₁.U ∧ B₁.locs = A₁.locs ++ [] ∧ B₁.cells = A₁.cells + 0 ∧ B₁.slots = A₁.slots + 0) :=
  (law l x t V n f z fm i).pays htab hfr (by omega)
end ChN
end StrChars
namespace StrChars.Road
open Jvm Sem ClassFile Op Lib Jvm.Stand Jvm.Free Jvm.Free.XT
open Jvm.Lib.Cold (StaticIs)
/-- the words of String.charAt(int), the Latin-1 road alone -/
abbrev wordsChN : List Jvm.Cond := [.code ChN.yN ChN.yB 2 (some .char), .initialized ST, .fieldLink ST 9 ST "value" "[B", .fieldLink ST 38 ST "COMPACT_STRINGS" "Z", .fieldLink ST 15 ST "coder" "B", .code IsL.yN IsL.yB 1 (some .boolean), .methodLink ST 492 IsL.yN, .declares IsL.yN, .selects ST IsL.yN IsL.yN, .instanceMethod IsL.yN,
  .methodLink ST 495 LChA.yN, .static LChA.yN, .code LChA.yN LChA.yB 2 (some .char), .initialized "java/lang/StringLatin1", .methodLink "java/lang/StringLatin1" 9 JO.Str_checkIndex.yN, .static JO.Str_checkIndex.yN, .code JO.Str_checkIndex.yN JO.Str_checkIndex.yB 2 none,
  .fieldLink ST 1053 "jdk/internal/util/Preconditions" "SIOOBE_FORMATTER" "Ljava/util/function/BiFunction;", .methodLink ST 1059 JC.PreCheck.yN, .static JC.PreCheck.yN, .code JC.PreCheck.yN JC.PreCheck.yB 3 (some .int), .initialized "jdk/internal/util/Preconditions"]
theorem tabChN_of {a : Array Value} {s : State} (h : ∀ w ∈ wordsChN, w.before a s = true) : ChN.tab.before a s = true := by
  have hp : JC.PreCheck.tab.before a s = true := unparts (wk h (.code JC.PreCheck.yN JC.PreCheck.yB 3 (some .int))) (wks h (.initialized JC.PreCheck.yN.cls :: JC.PreCheck.site))
  have qk := consq hp h
  have hk : JO.Str_checkIndex.tab.before a s = true := unparts (wk qk (.code JO.Str_checkIndex.yN JO.Str_checkIndex.yB 2 none)) (wks qk (.initialized JO.Str_checkIndex.yN.cls :: JO.Str_checkIndex.site))
  have ql := consq hk h
  have hl : LChA.tab.before a s = true := unparts (wk ql (.code LChA.yN LChA.yB 2 (some .char))) (wks ql (.initialized LChA.yN.cls :: LChA.site))
  have hi : IsL.tab.before a s = true := unparts (wk h (.code IsL.yN IsL.yB 1 (some .boolean))) (wks h (.initialized IsL.yN.cls :: IsL.site))
  have q := consq hi (consq hl h)
  exact unparts (wk q (.code ChN.yN ChN.yB 2 (some .char))) (wks q (.initialized ChN.yN.cls :: ChN.site))
theorem movedChN {Z s : State} {a0 args : Array Value} (hZ : Z.Warmed39 s.vm) (hw : ∀ d ∈ wordsChN, d.before a0 Z = true) : ∀ d ∈ wordsChN, d.before args s = true := fun d hd => by
  have t : ∀ d ∈ wordsChN, (d.onTables && d.keepsFace) = true := by decide +kernel
  exact RoadKit.mv hZ (hw d hd) (t d hd)
/-- **charAt(i) OF A LATIN-1 STRING**, i < n: the char -/
theorem chN {p : Program} {l : Launch} {e : Env} {R : Room} {s : State} {args : Array Value} {below : List Frame} {len W : Nat} {Z : State} {a0 : Array Value} {h : Heap} (hZ : Z.Warmed39 s.vm) (hw : ∀ d ∈ wordsChN, d.before a0 Z = true) {kI : Nat} (wi : (Jvm.Cond.instantiable ST kI).before a0 Z = true)
    {x t : Addr} {kb : ClassId} {cs : List Int32} {N2 z : Int32} {vs : List Value} {fm : Value} {i : Nat} {j : Int32} (E : RoadKit.Exa Z h x ST) (V : RoadKit.Fld Z h x ST "value" "[B" (.ref t)) (C : RoadKit.Fld Z h x ST "coder" "B" (.int 0)) (K : RoadKit.Arv Z h t kb .byte N2 vs (.int 0)) (hc : CodA cs 0 N2 vs) (hb : ∀ c ∈ cs, ¬ c < 0 ∧ ¬ (65535 : Int32) < c)
    (S : RoadKit.Sta Z h ST "COMPACT_STRINGS" "Z" (.int z)) (hz : ¬ z = 0) (F : RoadKit.Sta Z h "jdk/internal/util/Preconditions" "SIOOBE_FORMATTER" "Ljava/util/function/BiFunction;" fm) (rf : fm.isRef = true) (l2 : cs.length ≤ 4000) (hi : i < cs.length) (hj : j = Int32.ofNat i) (hfr : 4 ≤ R.frames) (hlo : W + 53 ≤ R.locals) :
    Back l R p e below s args (⟨"java/lang/String", "charAt", "(I)C"⟩ : MethodName) len W (fun P a => a = #[.ref x, .int j] ∧ P.U.heap = h ∧ P.cells + 0 ≤ R.cells ∧ P.slots + 0 ≤ R.slots)
      (fun P _ v B => ∃ L, (v = some (.int (cs.getD i 0)) ∧ L = [] ∧ B.U.heap = h) ∧ B.locs = P.locs ++ L ∧ B.cells = P.cells + 0 ∧ B.slots = P.slots + 0) := by
  subst hj
  intro m meth c P g ig mk a X hg hsize hdg hW hn hp'
  obtain ⟨rfl, rfl, r1, r2⟩ := hp'
  have al : Z.vm.Alike P.U.vm := hZ.alike.trans X.warmed.alike
  obtain ⟨A, hx⟩ := txt_of wi al E V C K hc hb l2
  obtain ⟨v, B, X', ⟨⟨hv, hh⟩, hl, hk, hs⟩, st⟩ := ChN.pays x t A cs.length (fun j => cs.getD j 0) z fm i (tabChN_of (movedChN hZ hw)) hfr hlo m meth c P g ig mk _ X hg hsize hdg hW hn ⟨r1, r2, rfl, hx, hi, sta_is al S, hz, sta_is al F, rf⟩
  exact ⟨v, B, X', ⟨[], ⟨hv, rfl, hh⟩, hl, hk, hs⟩, st⟩
/-- what backV says of its String, as the contracts of this text ask it: cs's low bytes, coder 0 -/
theorem codOf {cs : List Int32} {n : Nat} (hn : cs.length = n) (hb : ∀ c ∈ cs, ¬ 255 < c) : CodA cs 0 (Int32.ofNat n) ((cs.map lo8).map Value.int) := Or.inl ⟨rfl, by rw [hn], by simp [List.map_map, Function.comp_def], hb⟩
end StrChars.Road
end Jvm.Pilot.@@N@@
namespace Jvm.Pilot.@@N@@
open Jvm Jvm.ClassFile Sem Op Lib Jvm.Free Jvm.Stand Jvm.LawKit Jvm.RoadKit Bundle Jvm.Pilot.@@N@@.Jvm.D
section OwnStr
variable {p : Program} {l : Launch} {e : Env} {R : Room} {s : State} {m : MethodId} {args : Array Value} {below : List Frame} {meth : Method} {c : Code} {Z : State} {EL : List (String × Nat)} {n0 : Nat} {own : String} {code : ByteArray} {ml : Nat} {bw : Bool} {vm : Vm} {T : State} {h h' : Heap} {locs : List Loc} {cells slots : Nat} {a0 : Array Value} {x t : Addr} {cs : List Int32} {len W : Nat} {ws : List Addr}
/-- the String at x, its bytes at t, spells cs -/
def Str (Z : State) (h : Heap) (x t : Addr) (cs : List Int32) : Prop := Exa Z h x "java/lang/String" ∧ (∃ (cd N : Int32) (vs : List Value) (kb : ClassId), Fld Z h x "java/lang/String" "value" "[B" (.ref t) ∧ Fld Z h x "java/lang/String" "coder" "B" (.int cd) ∧ Arv Z h t kb .byte N vs (.int 0) ∧ StrChars.Road.CodA cs cd N vs) ∧ (∀ c ∈ cs, ¬ c < 0 ∧ ¬ (65535 : Int32) < c) ∧ cs.length ≤ 4000
theorem Str.ext (E : Ext h h') (F : Str Z h x t cs) : Str Z h' x t cs := by
  obtain ⟨a1, ⟨cd, N, vs, kb, b1, b2, b3, b4⟩, r⟩ := F; exact ⟨a1.ext E, ⟨cd, N, vs, kb, b1.ext E, b2.ext E, b3.ext E, b4⟩, r⟩
theorem Str.keep (F : Str Z h x t cs) (K : Keep h h' ws) (q : x ∉ ws) (q' : t ∉ ws) : Str Z h' x t cs := by
  obtain ⟨a1, ⟨cd, N, vs, kb, b1, b2, b3, b4⟩, r⟩ := F; exact ⟨a1.keep K, ⟨cd, N, vs, kb, b1.keep K q, b2.keep K q, b3.keep K q', b4⟩, r⟩
theorem strLit {b : Addr} {kb : ClassId} {z : Int32} {vs : List Value} (E : Exa Z h x "java/lang/String") (C : Fld Z h x "java/lang/String" "coder" "B" (.int 0)) (V : Fld Z h x "java/lang/String" "value" "[B" (.ref b)) (K : Arv Z h b kb .byte z vs (.int 0)) (q : StrChars.Road.CodA cs 0 z vs) (r : ∀ c ∈ cs, ¬ c < 0 ∧ ¬ (65535 : Int32) < c) (r2 : cs.length ≤ 4000) : Str Z h x b cs := ⟨E, ⟨0, z, vs, kb, V, C, K, q⟩, r, r2⟩
theorem Str.open (F : Str Z h x t cs) (lat : ∀ c ∈ cs, ¬ (255 : Int32) < c) : ∃ kb, Fld Z h x "java/lang/String" "value" "[B" (.ref t) ∧ Fld Z h x "java/lang/String" "coder" "B" (.int 0) ∧ Arv Z h t kb .byte (Int32.ofNat cs.length) (cs.map fun c => Value.int (StrChars.lo8 c)) (.int 0) := by
  obtain ⟨a1, ⟨cd, N, vs, kb, b1, b2, b3, b4⟩, r1, r2⟩ := F
  rcases b4 with ⟨rfl, rfl, rfl, -⟩ | ⟨-, -, -, c, hc, q⟩
  · exact ⟨kb, b1, b2, b3⟩
  · exact absurd q (lat c hc)
theorem Str.exa (F : Str Z h x t cs) : Exa Z h x "java/lang/String" := F.1
theorem Str.lt (F : Str Z h x t cs) : x < h.size := F.1.lt
theorem Str.lt' (F : Str Z h x t cs) : t < h.size := by obtain ⟨_, ⟨_, _, _, _, -, -, b3, -⟩, -⟩ := F; exact b3.lt
theorem up8 {c : Int32} (q : ¬ (255 : Int32) < c) : ¬ (65535 : Int32) < c := fun r => q (by rw [Int32.lt_iff_toInt_lt] at r ⊢; have e1 : (65535 : Int32).toInt = 65535 := rfl; have e2 : (255 : Int32).toInt = 255 := rfl; omega)
theorem payLen (A : WS p l e R s m args below meth c Z EL n0 own code ml bw vm T h locs cells slots) (hw : ∀ d ∈ tables_1, d.before a0 Z = true) {kI : Nat} (wi : (Jvm.Cond.instantiable "java/lang/String" kI).before a0 Z = true) (F : Str Z h x t cs) {zc : Int32} (O : Sta Z Z.heap "java/lang/String" "COMPACT_STRINGS" "Z" (.int zc)) (hz : ¬ zc = 0) (hfr : 2 ≤ R.frames) (hlo : W + 25 ≤ R.locals) : BkN l R p e below (s.setVm vm) args (⟨"java/lang/String", "length", "()I"⟩ : MethodName) len W #[.ref x] h n0 [] (fun v h' => v = some (.int (Int32.ofNat cs.length)) ∧ h' = h) 0 0 := by
  obtain ⟨a1, ⟨cd, N, vs, kb, b1, b2, b3, b4⟩, r1, r2⟩ := F
  exact Back.mono (StrChars.Road.lenW A.hZ (fun d hd => hw d ((by decide +kernel : ∀ d ∈ StrChars.Road.wordsLen, d ∈ tables_1) d hd)) wi a1 b1 b2 b3 b4 r1 (O.ext A.old.2) hz r2 hfr hlo) (fun _ _ q => q) (fun B a v B' hp hq => by obtain ⟨L, ⟨q1, rfl, q3⟩, r⟩ := hq; exact ⟨[], ⟨Fr.nil n0, by rw [q3]; exact Keep.refl _ _, q1, q3⟩, r⟩)
theorem payCh (A : WS p l e R s m args below meth c Z EL n0 own code ml bw vm T h locs cells slots) (hw : ∀ d ∈ tables_1, d.before a0 Z = true) {kI : Nat} (wi : (Jvm.Cond.instantiable "java/lang/String" kI).before a0 Z = true) (F : Str Z h x t cs) (lat : ∀ c ∈ cs, ¬ (255 : Int32) < c) {zc : Int32} (O : Sta Z Z.heap "java/lang/String" "COMPACT_STRINGS" "Z" (.int zc)) (hz : ¬ zc = 0) {fm : Value} (O4 : Sta Z Z.heap "jdk/internal/util/Preconditions" "SIOOBE_FORMATTER" "Ljava/util/function/BiFunction;" fm) (rf : fm.isRef = true) (i : Nat) (hi : i < cs.length) {j : Int32} (hj : j = Int32.ofNat i) (hfr : 4 ≤ R.frames) (hlo : W + 53 ≤ R.locals) : BkN l R p e below (s.setVm vm) args (⟨"java/lang/String", "charAt", "(I)C"⟩ : MethodName) len W #[.ref x, .int j] h n0 [] (fun v h' => v = some (.int (cs.getD i 0)) ∧ h' = h) 0 0 := by
  obtain ⟨a1, ⟨cd, N, vs, kb, b1, b2, b3, b4⟩, r1, r2⟩ := F
  obtain rfl : cd = 0 := by
    rcases b4 with ⟨q, -⟩ | ⟨-, -, -, c, hc, q⟩
    · exact q
    · exact absurd q (lat c hc)
  exact Back.mono (StrChars.Road.chN A.hZ (fun d hd => hw d ((by decide +kernel : ∀ d ∈ StrChars.Road.wordsChN, d ∈ tables_1) d hd)) wi a1 b1 b2 b3 b4 r1 (O.ext A.old.2) hz (O4.ext A.old.2) rf r2 hi hj hfr hlo) (fun _ _ q => q) (fun B a v B' hp hq => by obtain ⟨L, ⟨q1, rfl, q3⟩, r⟩ := hq; exact ⟨[], ⟨Fr.nil n0, by rw [q3]; exact Keep.refl _ _, q1, q3⟩, r⟩)
theorem payEq (A : WS p l e R s m args below meth c Z EL n0 own code ml bw vm T h locs cells slots) (hw : ∀ d ∈ tables_1, d.before a0 Z = true) {kI : Nat} (wi : (Jvm.Cond.instantiable "java/lang/String" kI).before a0 Z = true) (F : Str Z h x t cs) {y u : Addr} {ds : List Int32} (G : Str Z h y u ds) {zc : Int32} (O : Sta Z Z.heap "java/lang/String" "COMPACT_STRINGS" "Z" (.int zc)) (hz : ¬ zc = 0) (hfr : 2 ≤ R.frames) (hlo : W + 28 ≤ R.locals) : BkN l R p e below (s.setVm vm) args (⟨"java/lang/String", "equals", "(Ljava/lang/Object;)Z"⟩ : MethodName) len W #[.ref x, .ref y] h n0 [] (fun v h' => v = some (.int (if cs = ds then 1 else 0)) ∧ h' = h) 0 0 := by
  obtain ⟨a1, ⟨cd, N, vs, kb, b1, b2, b3, b4⟩, r1, r2⟩ := F
  obtain ⟨a1', ⟨cd', N', vs', kb', b1', b2', b3', b4'⟩, r1', r2'⟩ := G
  refine Back.mono (StrChars.Road.eqW A.hZ (fun d hd => hw d ((by decide +kernel : ∀ d ∈ StrChars.Road.wordsEq, d ∈ tables_1) d hd)) wi a1 b1 b2 b3 b4 r1 r2 a1' b1' b2' b3' b4' r1' r2' (O.ext A.old.2) hz hfr hlo) (fun _ _ q => q) (fun B a v B' hp hq => ?_)
  obtain ⟨L, ⟨q1, rfl, q3⟩, r⟩ := hq
  refine ⟨[], ⟨Fr.nil n0, by rw [q3]; exact Keep.refl _ _, ?_, q3⟩, r⟩
  rcases q1 with ⟨rfl, q⟩ | ⟨rfl, q⟩
  · rw [if_pos q]
  · rw [if_neg q]
theorem payNew (A : WS p l e R s m args below meth c Z EL n0 own code ml bw vm T h locs cells slots) (hw : ∀ d ∈ tables_1, d.before a0 Z = true) {kI : Nat} (wi : (Jvm.Cond.instantiable "java/lang/String" kI).before a0 Z = true) {b : Addr} {kC : ClassId} {d v0 c0 : Value} {N : Int32} (n : Nat) (gx : n0 ≤ x) (E : Exa Z h x "java/lang/String") (V : Fld Z h x "java/lang/String" "value" "[B" v0) (C : Fld Z h x "java/lang/String" "coder" "B" c0) (K : Arv Z h b kC .char N (cs.map Value.int) d) {zc : Int32} (O : Sta Z Z.heap "java/lang/String" "COMPACT_STRINGS" "Z" (.int zc)) (hz : ¬ zc = 0) (hn : cs.length = n) (hN : N = Int32.ofNat n) (l0 : 0 < n) (l2 : n ≤ 4000) (hp : ∀ c ∈ cs, ¬ c < 0 ∧ ¬ (255 : Int32) < c) (hfr : 4 ≤ R.frames) (hlo : W + 65 ≤ R.locals) :
    BkN l R p e below (s.setVm vm) args (⟨"java/lang/String", "<init>", "([C)V"⟩ : MethodName) len W #[.ref x, .ref b] h n0 [x] (fun v h' => v = none ∧ ∃ t : Addr, n0 ≤ t ∧ h.size ≤ t ∧ ¬ t = x ∧ Str Z h' x t cs) 1 n := by
  refine Back.mono (StrChars.Road.backV A.hZ (fun d hd => hw d ((by decide +kernel : ∀ d ∈ StrChars.Road.words, d ∈ tables_1) d hd)) wi gx A.sz E V C K (O.ext A.old.2) hz hn hN l0 l2 hp rfl hfr hlo) (fun _ _ q => q) (fun B a v B' hp' hq => ?_)
  obtain ⟨L, ⟨rfl, q2, q3, q4, q5, t, kb, q6, q7, q8, q9, q10⟩, r⟩ := hq
  exact ⟨L, ⟨q2, q3, rfl, t, q6, q7, q8, q4, ⟨0, N, _, kb, q9, q5, q10, by rw [hN]; exact StrChars.Road.codOf hn fun c hc => (hp c hc).2⟩, fun c hc => ⟨(hp c hc).1, up8 (hp c hc).2⟩, by omega⟩, r⟩
end OwnStr
end Jvm.Pilot.@@N@@
namespace Jvm.Pilot.@@N@@
open Jvm Jvm.ClassFile Sem Op Lib Jvm.Free Jvm.Stand Jvm.LawKit Jvm.RoadKit Bundle Jvm.Pilot.@@N@@.Jvm.D
theorem ln {P : Int32 → Prop} : ∀ c ∈ ([] : List Int32), P c := fun _ q => nomatch q
theorem lc {P : Int32 → Prop} {a : Int32} {L : List Int32} (q : P a) (r : ∀ c ∈ L, P c) : ∀ c ∈ a :: L, P c := fun c z => (List.mem_cons.mp z).elim (fun u => u ▸ q) (r c)
theorem cat_ref {v : Value} (h : v.isRef = true) : v.category = 1 := by cases v <;> first | rfl | cases h
theorem lat2 {L : List Int32} (q : ∀ c ∈ L, ¬ c < 0 ∧ ¬ (255 : Int32) < c) : ∀ c ∈ L, ¬ (255 : Int32) < c := fun c hc => (q c hc).2
theorem chr_id {z : Int32} (q : 0 ≤ z.toInt ∧ z.toInt ≤ 65535) : z.toUInt32.toUInt16.toUInt32.toInt32 = z := by
  have a := c_i2c z; exact Int32.toInt_inj.mp (by omega)
theorem nar_id {z : Int32} (q : 0 ≤ z.toInt ∧ z.toInt ≤ 65535) : nar .char z = z := chr_id q
theorem chr_rng (z : Int32) : 0 ≤ (z.toUInt32.toUInt16.toUInt32.toInt32).toInt ∧ (z.toUInt32.toUInt16.toUInt32.toInt32).toInt ≤ 65535 := by
  have a := c_i2c z; omega
theorem lat_of {z : Int32} (q : 0 ≤ z.toInt ∧ z.toInt ≤ 255) : ¬ z < 0 ∧ ¬ (255 : Int32) < z := by
  rw [Int32.lt_iff_toInt_lt, Int32.lt_iff_toInt_lt]; have e1 : (255 : Int32).toInt = 255 := rfl; have e2 : (0 : Int32).toInt = 0 := rfl; omega
theorem of_lat {z : Int32} (q : ¬ z < 0 ∧ ¬ (255 : Int32) < z) : 0 ≤ z.toInt ∧ z.toInt ≤ 255 := by
  rw [Int32.lt_iff_toInt_lt, Int32.lt_iff_toInt_lt] at q; have e1 : (255 : Int32).toInt = 255 := rfl; have e2 : (0 : Int32).toInt = 0 := rfl; omega
theorem lt_i {x y : Int32} : x < y ↔ x.toInt < y.toInt := Int32.lt_iff_toInt_lt
theorem and255 (x : Int32) : 0 ≤ (x &&& 255).toInt ∧ (x &&& 255).toInt ≤ 255 := c_and x 255 (by decide)
abbrev ELs : List (String × Nat) := [("com/example/confinement/confinement/policy/VerdictForKeywordPinLaw", 7), ("com/example/confinement/confinement/policy/VerdictForKeywordPinLaw", 9), ("com/example/confinement/confinement/policy/VerdictForKeywordPinLaw", 11), ("com/example/confinement/confinement/policy/VerdictForKeywordPinLaw", 13), ("java/lang/String", 7)]
theorem strA {Z : State} {a0 : Array Value} (hw : ∀ d ∈ tables_1, d.before a0 Z = true) : ∀ a ∈ Bundle.stringAtoms, a.before a0 Z = true := fun d hd => hw d ((by decide +kernel : ∀ d ∈ Bundle.stringAtoms, d ∈ tables_1) d hd)
theorem pn0 : plainName "java/lang/String" = true := by first | (simp [plainName, overriddenIn]; done) | decide +kernel
theorem d13_0 : decode jdk_42_method_149_code 0 = .ok (.aload_n 0, 1) := by decide +kernel
theorem d13_1 : decode jdk_42_method_149_code 1 = .ok (.invokespecial 1, 3) := by decide +kernel
theorem d13_4 : decode jdk_42_method_149_code 4 = .ok (.iload_n 3, 1) := by decide +kernel
theorem d13_5 : decode jdk_42_method_149_code 5 = .ok (.ifCond .ne 22, 3) := by decide +kernel
theorem d13_8 : decode jdk_42_method_149_code 8 = .ok (.aload_n 0, 1) := by decide +kernel
theorem d13_9 : decode jdk_42_method_149_code 9 = .ok (.ldc 7, 2) := by decide +kernel
theorem d13_11 : decode jdk_42_method_149_code 11 = .ok (.getfield 9, 3) := by decide +kernel
theorem d13_14 : decode jdk_42_method_149_code 14 = .ok (.putfield 9, 3) := by decide +kernel
theorem d13_17 : decode jdk_42_method_149_code 17 = .ok (.aload_n 0, 1) := by decide +kernel
theorem d13_18 : decode jdk_42_method_149_code 18 = .ok (.ldc 7, 2) := by decide +kernel
theorem d13_20 : decode jdk_42_method_149_code 20 = .ok (.getfield 15, 3) := by decide +kernel
theorem d13_23 : decode jdk_42_method_149_code 23 = .ok (.putfield 15, 3) := by decide +kernel
theorem d13_26 : decode jdk_42_method_149_code 26 = .ok (.return_, 1) := by decide +kernel
set_option maxRecDepth 65536 in
set_option maxHeartbeats 40000000 in
theorem m_new4E (l : Launch) (Z : State) (a0 : Array Value) (hw : ∀ d ∈ tables_1, d.before a0 Z = true) (x b : Addr) (h0 : Heap) (n0 : Nat) (ho : Old Z n0 h0) (hEL : EW Z a0 ELs) (E : Exa Z h0 x "java/lang/String") (V : Fld Z h0 x "java/lang/String" "value" "[B" .null) (C : Fld Z h0 x "java/lang/String" "coder" "B" (.int 0)) (gx : n0 ≤ x) :
    CW l (⟨"java/lang/String", "<init>", "([CIILjava/lang/Void;)V"⟩ : MethodName) jdk_42_method_149_code 6 none [] ({ frames := 1, cells := 2, slots := 4, locals := 12 } : Room) Z ELs [x] n0 h0 #[(.ref x), (.ref b), (.int (0 : Int32)), (.int (0 : Int32)), .null] [x] (fun v h => v = none ∧ ∃ t : Addr, Str Z h x t []) := by
  refine CW.walk (plainFor_of_name pn0) ho (L0 := #[.val (.ref x), .val (.ref b), .val (.int (0 : Int32)), .val (.int (0 : Int32)), .val .null, .unset]) (fun m => rfl) ?_
  intro pG e s m below meth cO T hlk hret hnm hSL A0
  have K0 : Keep h0 h0 [x] := Keep.refl _ _
  have sx := hSL x (List.mem_singleton.mpr rfl)
  refine f_aloadN A0 d13_0 (pc' := 1) rfl rfl rfl ?_
  refine f_initO A0 (W := 0) d13_1 (pc' := 4) rfl (wd hw 68 rfl) (wd hw 69 rfl) (wd hw 70 rfl) rfl (by decide) (Nat.le_of_eq rfl) (by decide) fun T1 A1 => ?_
  refine f_iloadN A1 d13_4 (pc' := 5) rfl rfl ?_
  refine f_ifN A1 d13_5 ((if0 _ _).trans (teq (by decide : (0 : Int32) = (0 : Int32))).2) (pc' := 8) rfl ?_
  refine f_aloadN A1 d13_8 (pc' := 9) rfl rfl rfl ?_
  refine f_ldcC A1 d13_9 (pc' := 11) rfl (by decide) (vs := []) (z := 0) ⟨by decide, by decide⟩ (by decide) (by decide) (wd hw 150 rfl) (strA hw) hEL (n := 0) (by decide) (by decide) (by decide) (by decide) fun a2 b2 kb2 vm2 T2 h2 A2 E2 C2 Li2 x2 fc2 fv2 av2 hs2 => ?_
  have G2 : Str Z h2 a2 b2 [] := strLit x2 fc2 fv2 av2 (Or.inl ⟨rfl, rfl, rfl, by decide⟩) (by decide) (by decide)
  have Q3 : Keep h0 h2 [x] := K0.ext E2
  refine f_getF A2 d13_11 (pc' := 14) rfl (host := "") (Or.inl (wd hw 23 rfl)) Via.refl fv2 fun T4 A4 => ?_
  have c6 := (V.ext E2)
  have c7 := (E.ext E2)
  have c8 := (CHr.safe C2 E.lt sx)
  refine f_putF A4 (.ref b2) d13_14 (pc' := 17) rfl (wd hw 23 rfl) Via.refl c6 c7 (Or.inr ⟨(wd hw 8 rfl), rfl, hnm⟩) (wd hw 6 rfl) (ty := (.array .byte)) (by decide) rfl rfl gx (fun _ => c8) fun T5 h5 A5 W5 K5 X5 F5 => ?_
  have c9 := (C.ext E2)
  have Q10 : Keep h0 h5 [x] := Q3.trans K5 (allS (Or.inl (List.mem_of_getElem? (i := 0) rfl)) all0)
  refine f_aloadN A5 d13_17 (pc' := 18) rfl rfl rfl ?_
  refine f_ldcA A5 d13_18 (pc' := 20) rfl (wd hw 150 rfl) Li2 ?_
  have c13 := (fc2.keep K5 (ninS (Ne.symm (hs2 _ c8).1) nin0))
  refine f_getF A5 d13_20 (pc' := 23) rfl (host := "") (Or.inl (wd hw 30 rfl)) Via.refl c13 fun T12 A12 => ?_
  have c15 := (Safe.keep K5 (sfS c8 sf0) (A4.ch rfl).1 c8)
  refine f_putF A12 (.int (0 : Int32)) d13_23 (pc' := 26) rfl (wd hw 30 rfl) Via.refl (c9.other W5 (Or.inr (slot_ne (Or.inr (wd hw 9 rfl)) (Or.inr (wd hw 8 rfl)) (by decide) (t := .byte) (t' := (.array .byte)) (by decide) (by decide)))) X5 (Or.inr ⟨(wd hw 9 rfl), rfl, hnm⟩) (wd hw 6 rfl) (ty := .byte) (by decide) rfl (by decide) gx (fun _ => c15) fun T14 h14 A14 W14 K14 X14 F14 => ?_
  have Q16 : Keep h0 h14 [x] := Q10.trans K14 (allS (Or.inl (List.mem_of_getElem? (i := 0) rfl)) all0)
  have c17 := ((av2.keep K5 (ninS (Ne.symm (hs2 _ c8).2) nin0)).keep K14 (ninS (Ne.symm (hs2 _ c8).2) nin0))
  have G : Str Z h14 x b2 [] := strLit X14 F14 (F5.other W14 (Or.inr (slot_ne (Or.inr (wd hw 8 rfl)) (Or.inr (wd hw 9 rfl)) (by decide) (t := (.array .byte)) (t' := .byte) (by decide) (by decide)))) c17 (Or.inl ⟨rfl, rfl, rfl, by decide⟩) (by decide) (by decide)
  exact f_retW A14 hEL hlk hret d13_26 (by decide) (by decide) Q16 ⟨rfl, b2, G⟩
theorem d12_0 : decode jdk_42_method_3_code 0 = .ok (.aload_n 0, 1) := by decide +kernel
theorem d12_1 : decode jdk_42_method_3_code 1 = .ok (.aload_n 1, 1) := by decide +kernel
theorem d12_2 : decode jdk_42_method_3_code 2 = .ok (.iconst 0, 1) := by decide +kernel
theorem d12_3 : decode jdk_42_method_3_code 3 = .ok (.aload_n 1, 1) := by decide +kernel
theorem d12_4 : decode jdk_42_method_3_code 4 = .ok (.arraylength, 1) := by decide +kernel
theorem d12_5 : decode jdk_42_method_3_code 5 = .ok (.aconst_null, 1) := by decide +kernel
theorem d12_6 : decode jdk_42_method_3_code 6 = .ok (.invokespecial 27, 3) := by decide +kernel
theorem pd0 : parseMethodDescriptor "([CIILjava/lang/Void;)V" = some ⟨[(.array .char), .int, .int, (.object "java/lang/Void")], none⟩ := by decide +kernel
theorem d12_9 : decode jdk_42_method_3_code 9 = .ok (.return_, 1) := by decide +kernel
set_option maxRecDepth 65536 in
set_option maxHeartbeats 40000000 in
theorem m_new1E (l : Launch) (Z : State) (a0 : Array Value) (hw : ∀ d ∈ tables_1, d.before a0 Z = true) (x b : Addr) (kA : ClassId) (vs : List Value) (h0 : Heap) (n0 : Nat) (ho : Old Z n0 h0) (hEL : EW Z a0 ELs) (E : Exa Z h0 x "java/lang/String") (V : Fld Z h0 x "java/lang/String" "value" "[B" .null) (C : Fld Z h0 x "java/lang/String" "coder" "B" (.int 0)) (gx : n0 ≤ x) (Kb : Arv Z h0 b kA .char 0 vs (.int 0)) :
    CW l (⟨"java/lang/String", "<init>", "([C)V"⟩ : MethodName) jdk_42_method_3_code 2 none [] ({ frames := 2, cells := 2, slots := 4, locals := 40 } : Room) Z ELs [x] n0 h0 #[(.ref x), (.ref b)] [x] (fun v h => v = none ∧ ∃ t : Addr, Str Z h x t []) := by
  refine CW.walk (plainFor_of_name pn0) ho (L0 := #[.val (.ref x), .val (.ref b)]) (fun m => rfl) ?_
  intro pG e s m below meth cO T hlk hret hnm hSL A0
  have K0 : Keep h0 h0 [x] := Keep.refl _ _
  have sx := hSL x (List.mem_singleton.mpr rfl)
  refine f_aloadN A0 d12_0 (pc' := 1) rfl rfl rfl ?_
  refine f_aloadN A0 d12_1 (pc' := 2) rfl rfl rfl ?_
  refine f_iconst A0 d12_2 (pc' := 3) rfl 0 rfl ?_
  refine f_aloadN A0 d12_3 (pc' := 4) rfl rfl rfl ?_
  refine f_arraylength A0 d12_4 (pc' := 5) rfl Kb ?_
  refine f_aconst_null A0 d12_5 (pc' := 6) rfl ?_
  refine f_callIW A0 (a := x) d12_6 (pc' := 9) rfl rfl (wd hw 64 rfl) (wd hw 65 rfl) (wd hw 67 rfl) (by decide) pd0 [(.ref b), (.int (0 : Int32)), (.int (0 : Int32)), .null] [] rfl rfl rfl 0 (Nat.le_of_eq rfl) (CW.pay (W := 0) A0 hEL (m_new4E l Z a0 hw x b h0 n0 A0.old hEL E V C gx) (wd hw 67 rfl) (wd hw 5 rfl) (by decide) (by decide) (allS ⟨E.lt, sx⟩ all0)) (kc := 2) (ks := 4) (by decide) (by decide) (allS gx all0) fun v18 vm18 T18 h18 L18 A18 K18 C18 q18 => ?_
  have Q19 : Keep h0 h18 [x] := K0.trans K18 (allS (Or.inl (List.mem_of_getElem? (i := 0) rfl)) all0)
  obtain ⟨rfl, t18, G18⟩ := q18
  show Wp pG e below _ T18 (mkF m 9 _ [])
  exact f_retW A18 hEL hlk hret d12_9 (by decide) (by decide) Q19 ⟨rfl, t18, G18⟩
theorem ofn {n : Nat} (h : n < 2147483648) : (Int32.ofNat n).toInt = n := Int32.toInt_ofNat_small h
theorem ofn_clamp {n : Nat} (h : n < 2147483648) : (Int32.ofNat n).toNatClampNeg = n := by simp only [Int32.toNatClampNeg, ofn h]; omega
theorem ofn_in {i n : Nat} (h : i < n) (hn : n < 2147483648) : ¬ Int32.ofNat i < 0 ∧ Int32.ofNat i < Int32.ofNat n := by
  rw [lt_i, lt_i, ofn (by omega), ofn hn]; have e : (0 : Int32).toInt = 0 := rfl; omega
theorem ofn_lt {i n : Nat} (hi : i < 2147483648) (hn : n < 2147483648) : Int32.ofNat i < Int32.ofNat n ↔ i < n := by rw [lt_i, ofn hi, ofn hn]; omega
theorem ofn_add {i n : Nat} (h : i + n < 2147483648) : Int32.ofNat i + Int32.ofNat n = Int32.ofNat (i + n) := by
  apply Int32.toInt_inj.mp; have a := c_iadd (Int32.ofNat i) (Int32.ofNat n); have b := rng32 (Int32.ofNat i + Int32.ofNat n); rw [ofn (by omega), ofn (by omega)] at a; rw [ofn h]; omega
theorem ofn_sub {i n : Nat} (h : n ≤ i) (hi : i < 2147483648) : Int32.ofNat i - Int32.ofNat n = Int32.ofNat (i - n) := by
  apply Int32.toInt_inj.mp; have a := c_isub (Int32.ofNat i) (Int32.ofNat n); have b := rng32 (Int32.ofNat i - Int32.ofNat n); rw [ofn (by omega), ofn (by omega)] at a; rw [ofn (by omega)]; omega
theorem ofn_one {i : Nat} (h : i + 1 < 2147483648) : Int32.ofNat i + 1 = Int32.ofNat (i + 1) := ofn_add (n := 1) h
theorem ofn_shl {i : Nat} (h : 2 * i < 2147483648) : Int32.ofNat i <<< ((1 : Int32) &&& 31) = Int32.ofNat (2 * i) := by
  apply Int32.toInt_inj.mp; have a := c_ishl (Int32.ofNat i) 1 1 (by decide); have b := rng32 (Int32.ofNat i <<< ((1 : Int32) &&& 31)); rw [ofn (by omega)] at a; rw [ofn h]; omega
theorem ofn_nn {n : Nat} (h : n < 2147483648) : ¬ Int32.ofNat n < 0 := by rw [lt_i, ofn h]; have e : (0 : Int32).toInt = 0 := rfl; omega
theorem lo88 (c : Int32) : (StrChars.lo8 c).toInt8.toInt32 = StrChars.lo8 c := by
  apply Int32.toInt_inj.mp; have a := c_i2b c; have b := c_i2b (StrChars.lo8 c); simp only [StrChars.lo8] at b ⊢; omega
theorem cod1 {n : Nat} (h0 : 0 < n) (h : 2 * n < 2147483648) : ((Int32.ofNat n - Int32.ofNat (2 * n)).toUInt32 >>> ((31 : Int32) &&& 31).toUInt32).toInt32 = 1 := by
  apply Int32.toInt_inj.mp; rw [c_iushr _ 31 31 (by decide) (by decide)]
  have a := c_isub (Int32.ofNat n) (Int32.ofNat (2 * n)); have b := rng32 (Int32.ofNat n - Int32.ofNat (2 * n)); rw [ofn (by omega), ofn h] at a
  have e : (1 : Int32).toInt = 1 := rfl; rw [e]; omega
theorem set2 {A R : List Value} {x y a b : Value} {i : Nat} (h : A.length = i) : ((A ++ x :: y :: R).set i a).set (i + 1) b = A ++ a :: b :: R := by
  subst h; rw [List.set_append_right _ _ (Nat.le_refl _), Nat.sub_self, List.set_cons_zero, List.set_append_right _ _ (Nat.le_succ _), show A.length.succ - A.length = 1 from by omega]; rfl
theorem wlen : ∀ cs : List Int32, (StrChars.Road.wideBytes cs).length = 2 * cs.length
  | [] => rfl
  | c :: cs => by rw [StrChars.Road.wideBytes, List.length_cons, List.length_cons, List.length_cons, wlen cs]; omega
theorem wapp : ∀ (cs : List Int32) (c : Int32), StrChars.Road.wideBytes (cs ++ [c]) = StrChars.Road.wideBytes cs ++ [.int (StrChars.lo8 c), .int (StrChars.hi8 c)]
  | [], c => rfl
  | d :: cs, c => by rw [List.cons_append, StrChars.Road.wideBytes, wapp cs c]; rfl
theorem getDm {cs : List Int32} {i : Nat} (d : Value) (h : i < cs.length) : (cs.map Value.int).getD i d = .int (cs.getD i 0) := by simp [List.getD_eq_getElem?_getD, h]
theorem take1 {cs : List Int32} {i : Nat} (h : i < cs.length) : cs.take (i + 1) = cs.take i ++ [cs.getD i 0] := by rw [List.take_succ_eq_append_getElem h]; simp [List.getD_eq_getElem?_getD, h]
theorem rep2 (k : Nat) : List.replicate (2 * (k + 1)) (Value.int 0) = .int 0 :: .int 0 :: List.replicate (2 * k) (Value.int 0) := by rw [show 2 * (k + 1) = 2 * k + 1 + 1 from by omega, List.replicate_succ, List.replicate_succ]

theorem pn1 : plainName "java/lang/StringUTF16" = true := by first | (simp [plainName, overriddenIn]; done) | decide +kernel
theorem d28_0 : decode jdk_52_method_4_code 0 = .ok (.getstatic 44, 3) := by decide +kernel
theorem d28_3 : decode jdk_52_method_4_code 3 = .ok (.ifCond .ne 25, 3) := by decide +kernel
theorem d28_28 : decode jdk_52_method_4_code 28 = .ok (.iload_n 1, 1) := by decide +kernel
theorem d28_29 : decode jdk_52_method_4_code 29 = .ok (.iconst 1, 1) := by decide +kernel
theorem d28_30 : decode jdk_52_method_4_code 30 = .ok (.ishl, 1) := by decide +kernel
theorem d28_31 : decode jdk_52_method_4_code 31 = .ok (.istore_n 1, 1) := by decide +kernel
theorem d28_32 : decode jdk_52_method_4_code 32 = .ok (.aload_n 0, 1) := by decide +kernel
theorem d28_33 : decode jdk_52_method_4_code 33 = .ok (.iload_n 1, 1) := by decide +kernel
theorem d28_34 : decode jdk_52_method_4_code 34 = .ok (.iinc 1 1, 3) := by decide +kernel
theorem d28_37 : decode jdk_52_method_4_code 37 = .ok (.iload_n 2, 1) := by decide +kernel
theorem d28_38 : decode jdk_52_method_4_code 38 = .ok (.getstatic 59, 3) := by decide +kernel
theorem d28_41 : decode jdk_52_method_4_code 41 = .ok (.ishr, 1) := by decide +kernel
theorem d28_42 : decode jdk_52_method_4_code 42 = .ok (.i2b, 1) := by decide +kernel
theorem d28_43 : decode jdk_52_method_4_code 43 = .ok (.bastore, 1) := by decide +kernel
theorem d28_44 : decode jdk_52_method_4_code 44 = .ok (.aload_n 0, 1) := by decide +kernel
theorem d28_45 : decode jdk_52_method_4_code 45 = .ok (.iload_n 1, 1) := by decide +kernel
theorem d28_46 : decode jdk_52_method_4_code 46 = .ok (.iload_n 2, 1) := by decide +kernel
theorem d28_47 : decode jdk_52_method_4_code 47 = .ok (.getstatic 63, 3) := by decide +kernel
theorem d28_50 : decode jdk_52_method_4_code 50 = .ok (.ishr, 1) := by decide +kernel
theorem d28_51 : decode jdk_52_method_4_code 51 = .ok (.i2b, 1) := by decide +kernel
theorem d28_52 : decode jdk_52_method_4_code 52 = .ok (.bastore, 1) := by decide +kernel
theorem d28_53 : decode jdk_52_method_4_code 53 = .ok (.return_, 1) := by decide +kernel
set_option maxRecDepth 65536 in
set_option maxHeartbeats 40000000 in
theorem m_putCh (l : Launch) (Z : State) (a0 : Array Value) (hw : ∀ d ∈ tables_1, d.before a0 Z = true) (v : Addr) (kb : ClassId) (vs : List Value) (i n : Nat) (c : Int32) (Oa : Sta Z Z.heap "java/lang/StringUTF16" "$assertionsDisabled" "Z" (.int 1)) (Oh : Sta Z Z.heap "java/lang/StringUTF16" "HI_BYTE_SHIFT" "I" (.int 0)) (Ol : Sta Z Z.heap "java/lang/StringUTF16" "LO_BYTE_SHIFT" "I" (.int 8)) (h0 : Heap) (n0 : Nat) (ho : Old Z n0 h0) (V : Arv Z h0 v kb .byte (Int32.ofNat (2 * n)) vs (.int 0)) (hi : i < n) (hn : 2 * n < 2147483648) (hl : 2 * i + 1 < vs.length) (gv : n0 ≤ v) :
    CN l (⟨"java/lang/StringUTF16", "putChar", "([BII)V"⟩ : MethodName) jdk_52_method_4_code 3 none [] ({ frames := 0, cells := 0, slots := 0, locals := 0 } : Room) Z n0 h0 #[(.ref v), (.int (Int32.ofNat i)), (.int c)] [v] (fun r h => r = none ∧ Arv Z h v kb .byte (Int32.ofNat (2 * n)) ((vs.set (2 * i) (.int (StrChars.lo8 c))).set (2 * i + 1) (.int (StrChars.hi8 c))) (.int 0)) := by
  refine CN.walk (plainFor_of_name pn1) ho (L0 := #[.val (.ref v), .val (.int (Int32.ofNat i)), .val (.int c)]) (fun m => rfl) ?_
  intro pG e s m below meth cO T hlk hret hnm A0
  have K0 : Keep h0 h0 [v] := Keep.refl _ _
  refine f_getS A0 d28_0 (pc' := 3) rfl (host := "") (Or.inl (wd hw 143 rfl)) Via.refl Oa fun T20 A20 => ?_
  refine f_ifY A20 d28_3 ((if0 _ _).trans (feq (by decide : ¬ (1 : Int32) = (0 : Int32))).2) (pc' := 28) (by decide) (by decide) ?_
  refine f_iloadN A20 d28_28 (pc' := 29) rfl rfl ?_
  refine f_iconst A20 d28_29 (pc' := 30) rfl 1 rfl ?_
  refine f_ishl A20 d28_30 (pc' := 31) rfl (Int32.ofNat (2 * i)) (ofn_shl (by omega)) ?_
  refine f_istoreN A20 d28_31 (pc' := 32) rfl (L' := #[.val (.ref v), .val (.int (Int32.ofNat (2 * i))), .val (.int c)]) rfl ?_
  refine f_aloadN A20 d28_32 (pc' := 33) rfl rfl rfl ?_
  refine f_iloadN A20 d28_33 (pc' := 34) rfl rfl ?_
  refine f_iinc A20 d28_34 (pc' := 37) rfl rfl (Int32.ofNat (2 * i + 1)) (ofn_one (by omega)) (L' := #[.val (.ref v), .val (.int (Int32.ofNat (2 * i + 1))), .val (.int c)]) rfl ?_
  refine f_iloadN A20 d28_37 (pc' := 38) rfl rfl ?_
  refine f_getS A20 d28_38 (pc' := 41) rfl (host := "") (Or.inl (wd hw 144 rfl)) Via.refl Oh fun T21 A21 => ?_
  refine f_ishr A21 d28_41 (pc' := 42) rfl c (StrChars.shr0 c) ?_
  refine f_i2b A21 d28_42 (pc' := 43) rfl (StrChars.lo8 c) rfl ?_
  refine f_bastore A21 d28_43 (pc' := 44) rfl V (ofn_in (by omega) hn) (2 * i) (ofn_clamp (by omega)) (by omega) (StrChars.lo8 c) (lo88 c) (vs' := (vs.set (2 * i) (.int (StrChars.lo8 c)))) rfl gv (fun q => nomatch q) fun T22 h22 A22 K22 V22 => ?_
  have Q23 : Keep h0 h22 [v] := K0.trans K22 (allS (Or.inl (List.mem_of_getElem? (i := 0) rfl)) all0)
  refine f_aloadN A22 d28_44 (pc' := 45) rfl rfl rfl ?_
  refine f_iloadN A22 d28_45 (pc' := 46) rfl rfl ?_
  refine f_iloadN A22 d28_46 (pc' := 47) rfl rfl ?_
  refine f_getS A22 d28_47 (pc' := 50) rfl (host := "") (Or.inl (wd hw 145 rfl)) Via.refl Ol fun T24 A24 => ?_
  refine f_ishr A24 d28_50 (pc' := 51) rfl (c >>> ((8 : Int32) &&& 31)) rfl ?_
  refine f_i2b A24 d28_51 (pc' := 52) rfl (StrChars.hi8 c) rfl ?_
  refine f_bastore A24 d28_52 (pc' := 53) rfl V22 (ofn_in (by omega) hn) (2 * i + 1) (ofn_clamp (by omega)) (by rw [List.length_set]; exact hl) (StrChars.hi8 c) (lo88 (c >>> ((8 : Int32) &&& 31))) (vs' := ((vs.set (2 * i) (.int (StrChars.lo8 c))).set (2 * i + 1) (.int (StrChars.hi8 c)))) rfl gv (fun q => nomatch q) fun T25 h25 A25 K25 V25 => ?_
  have Q26 : Keep h0 h25 [v] := Q23.trans K25 (allS (Or.inl (List.mem_of_getElem? (i := 0) rfl)) all0)
  exact f_retN A25 hlk hret d28_53 (by decide) (by decide) Q26 ⟨rfl, V25⟩
theorem d27_0 : decode jdk_52_method_3_code 0 = .ok (.iload_n 0, 1) := by decide +kernel
theorem d27_1 : decode jdk_52_method_3_code 1 = .ok (.ifCond .ge 11, 3) := by decide +kernel
theorem d27_12 : decode jdk_52_method_3_code 12 = .ok (.iload_n 0, 1) := by decide +kernel
theorem d27_13 : decode jdk_52_method_3_code 13 = .ok (.ldc 20, 2) := by decide +kernel
theorem d27_15 : decode jdk_52_method_3_code 15 = .ok (.if_icmp .lt 40, 3) := by decide +kernel
theorem d27_55 : decode jdk_52_method_3_code 55 = .ok (.iload_n 0, 1) := by decide +kernel
theorem d27_56 : decode jdk_52_method_3_code 56 = .ok (.iconst 1, 1) := by decide +kernel
theorem d27_57 : decode jdk_52_method_3_code 57 = .ok (.ishl, 1) := by decide +kernel
theorem d27_58 : decode jdk_52_method_3_code 58 = .ok (.ireturn, 1) := by decide +kernel
set_option maxRecDepth 65536 in
set_option maxHeartbeats 40000000 in
theorem m_nbl (l : Launch) (Z : State) (a0 : Array Value) (hw : ∀ d ∈ tables_1, d.before a0 Z = true) (n : Nat) (h0 : Heap) (n0 : Nat) (ho : Old Z n0 h0) (hn : n ≤ 36) :
    CN l (⟨"java/lang/StringUTF16", "newBytesLength", "(I)I"⟩ : MethodName) jdk_52_method_3_code 1 (some .int) [] ({ frames := 0, cells := 0, slots := 0, locals := 0 } : Room) Z n0 h0 #[(.int (Int32.ofNat n))] [] (fun r h => r = some (.int (Int32.ofNat (2 * n))) ∧ h = h0) := by
  refine CN.walk (plainFor_of_name pn1) ho (L0 := #[.val (.int (Int32.ofNat n))]) (fun m => rfl) ?_
  intro pG e s m below meth cO T hlk hret hnm A0
  have K0 : Keep h0 h0 [] := Keep.refl _ _
  refine f_iloadN A0 d27_0 (pc' := 1) rfl rfl ?_
  refine f_ifY A0 d27_1 ((if0 _ _).trans (flt (ofn_nn (by omega))).2.1) (pc' := 12) (by decide) (by decide) ?_
  refine f_iloadN A0 d27_12 (pc' := 13) rfl rfl ?_
  refine f_ldcI A0 d27_13 (pc' := 15) rfl (wd hw 139 rfl) ?_
  refine f_icY A0 d27_15 (tlt (by rw [lt_i, ofn (by omega)]; have e : (1073741823 : Int32).toInt = 1073741823 := rfl; omega)).1 (pc' := 55) (by decide) (by decide) ?_
  refine f_iloadN A0 d27_55 (pc' := 56) rfl rfl ?_
  refine f_iconst A0 d27_56 (pc' := 57) rfl 1 rfl ?_
  refine f_ishl A0 d27_57 (pc' := 58) rfl (Int32.ofNat (2 * n)) (ofn_shl (by omega)) ?_
  exact f_retIN A0 hlk hret d27_58 (by decide) (by decide) K0 ⟨rfl, rfl⟩
theorem d26_0 : decode jdk_52_method_2_code 0 = .ok (.iload_n 0, 1) := by decide +kernel
theorem d26_1 : decode jdk_52_method_2_code 1 = .ok (.invokestatic 11, 3) := by decide +kernel
theorem pd1 : parseMethodDescriptor "(I)I" = some ⟨[.int], some .int⟩ := by decide +kernel
theorem d26_4 : decode jdk_52_method_2_code 4 = .ok (.newarray .byte, 2) := by decide +kernel
theorem d26_6 : decode jdk_52_method_2_code 6 = .ok (.areturn, 1) := by decide +kernel
set_option maxRecDepth 65536 in
set_option maxHeartbeats 40000000 in
theorem m_nbf (l : Launch) (Z : State) (a0 : Array Value) (hw : ∀ d ∈ tables_1, d.before a0 Z = true) (n : Nat) (h0 : Heap) (n0 : Nat) (ho : Old Z n0 h0) (hn : n ≤ 36) :
    CN l (⟨"java/lang/StringUTF16", "newBytesFor", "(I)[B"⟩ : MethodName) jdk_52_method_2_code 1 (some (.array .byte)) [] ({ frames := 1, cells := 1, slots := 72, locals := 12 } : Room) Z n0 h0 #[(.int (Int32.ofNat n))] [] (fun r h => ∃ (a : Addr) (kb : ClassId), r = some (.ref a) ∧ h0.size ≤ a ∧ Arv Z h a kb .byte (Int32.ofNat (2 * n)) (List.replicate (2 * n) (.int 0)) (.int 0)) := by
  refine CN.walk (plainFor_of_name pn1) ho (L0 := #[.val (.int (Int32.ofNat n))]) (fun m => rfl) ?_
  intro pG e s m below meth cO T hlk hret hnm A0
  have K0 : Keep h0 h0 [] := Keep.refl _ _
  refine f_iloadN A0 d26_0 (pc' := 1) rfl rfl ?_
  refine f_callS A0 d26_1 (pc' := 4) rfl (wd hw 136 rfl) (wd hw 137 rfl) (wd hw 73 rfl) (wd hw 138 rfl) (by decide) pd1 [(.int (Int32.ofNat n))] [] rfl rfl rfl 0 (Nat.le_of_eq rfl) (CN.pay (W := 0) A0 (m_nbl l Z a0 hw n h0 n0 A0.old hn) (wd hw 138 rfl) (wd hw 73 rfl) (by decide) (by decide)) (kc := 0) (ks := 0) (by decide) (by decide) all0 (fun q => nomatch q) fun v27 T27 h27 L27 A27 K27 q27 => ?_
  obtain ⟨rfl, hh27⟩ := q27
  obtain rfl := hh27.symm
  show Wp pG e below _ T27 (mkF m 4 _ [(.int (Int32.ofNat (2 * n)))])
  refine f_newP A27 72 d26_4 (pc' := 6) rfl (wd hw 7 rfl) (ofn_nn (by omega)) (by rw [ofn_clamp (by omega)]; omega) (by decide) (by decide) (by decide) (ad := "[B") (by decide) fun a28 T28 h28 k28 g28 A28 E28 F28 X28 => ?_
  have z28 : n0 ≤ a28 := Nat.le_trans A27.sz (Nat.le_of_eq g28.symm)
  have y28 : h0.size ≤ a28 := Nat.le_trans K0.1 (Nat.le_of_eq g28.symm)
  have Q29 : Keep h0 h28 [] := K0.ext E28
  have V28 := F28
  exact f_retRN A28 hlk hret d26_6 rfl rfl (by decide) (by decide) Q29 ⟨a28, k28, rfl, y28, V28.pad (pad_rep [] (.int 0) (2 * n))⟩
theorem d25_0 : decode jdk_52_method_14_code 0 = .ok (.iload_n 2, 1) := by decide +kernel
theorem d25_1 : decode jdk_52_method_14_code 1 = .ok (.invokestatic 107, 3) := by decide +kernel
theorem pd2 : parseMethodDescriptor "(I)[B" = some ⟨[.int], some (.array .byte)⟩ := by decide +kernel
theorem d25_4 : decode jdk_52_method_14_code 4 = .ok (.astore_n 3, 1) := by decide +kernel
theorem d25_5 : decode jdk_52_method_14_code 5 = .ok (.iconst 0, 1) := by decide +kernel
theorem d25_6 : decode jdk_52_method_14_code 6 = .ok (.istore 4, 2) := by decide +kernel
theorem d25_8 : decode jdk_52_method_14_code 8 = .ok (.iload 4, 2) := by decide +kernel
theorem d25_10 : decode jdk_52_method_14_code 10 = .ok (.iload_n 2, 1) := by decide +kernel
theorem d25_11 : decode jdk_52_method_14_code 11 = .ok (.if_icmp .ge 21, 3) := by decide +kernel
theorem d25_14 : decode jdk_52_method_14_code 14 = .ok (.aload_n 3, 1) := by decide +kernel
theorem d25_15 : decode jdk_52_method_14_code 15 = .ok (.iload 4, 2) := by decide +kernel
theorem d25_17 : decode jdk_52_method_14_code 17 = .ok (.aload_n 0, 1) := by decide +kernel
theorem d25_18 : decode jdk_52_method_14_code 18 = .ok (.iload_n 1, 1) := by decide +kernel
theorem d25_19 : decode jdk_52_method_14_code 19 = .ok (.caload, 1) := by decide +kernel
theorem d25_20 : decode jdk_52_method_14_code 20 = .ok (.invokestatic 111, 3) := by decide +kernel
theorem pd3 : parseMethodDescriptor "([BII)V" = some ⟨[(.array .byte), .int, .int], none⟩ := by decide +kernel
theorem d25_23 : decode jdk_52_method_14_code 23 = .ok (.iinc 1 1, 3) := by decide +kernel
theorem d25_26 : decode jdk_52_method_14_code 26 = .ok (.iinc 4 1, 3) := by decide +kernel
theorem d25_29 : decode jdk_52_method_14_code 29 = .ok (.goto (-21), 3) := by decide +kernel
theorem d25_32 : decode jdk_52_method_14_code 32 = .ok (.aload_n 3, 1) := by decide +kernel
theorem d25_33 : decode jdk_52_method_14_code 33 = .ok (.areturn, 1) := by decide +kernel
set_option maxRecDepth 65536 in
set_option maxHeartbeats 40000000 in
theorem m_toB (l : Launch) (Z : State) (a0 : Array Value) (hw : ∀ d ∈ tables_1, d.before a0 Z = true) (b : Addr) (kC : ClassId) (n : Nat) (cs : List Int32) (dd : Value) (Oa : Sta Z Z.heap "java/lang/StringUTF16" "$assertionsDisabled" "Z" (.int 1)) (Oh : Sta Z Z.heap "java/lang/StringUTF16" "HI_BYTE_SHIFT" "I" (.int 0)) (Ol : Sta Z Z.heap "java/lang/StringUTF16" "LO_BYTE_SHIFT" "I" (.int 8)) (h0 : Heap) (n0 : Nat) (ho : Old Z n0 h0) (B : Arv Z h0 b kC .char (Int32.ofNat n) (cs.map Value.int) dd) (hcs : cs.length = n) (hn : n ≤ 36) :
    CN l (⟨"java/lang/StringUTF16", "toBytes", "([CII)[B"⟩ : MethodName) jdk_52_method_14_code 5 (some (.array .byte)) [] ({ frames := 2, cells := 1, slots := 72, locals := 40 } : Room) Z n0 h0 #[(.ref b), (.int (0 : Int32)), (.int (Int32.ofNat n))] [] (fun r h => ∃ (t : Addr) (kb : ClassId), r = some (.ref t) ∧ h0.size ≤ t ∧ Arv Z h t kb .byte (Int32.ofNat (2 * n)) (StrChars.Road.wideBytes cs) (.int 0)) := by
  refine CN.walk (plainFor_of_name pn1) ho (L0 := #[.val (.ref b), .val (.int (0 : Int32)), .val (.int (Int32.ofNat n)), .unset, .unset]) (fun m => rfl) ?_
  intro pG e s m below meth cO T hlk hret hnm A0
  have K0 : Keep h0 h0 [] := Keep.refl _ _
  refine f_iloadN A0 d25_0 (pc' := 1) rfl rfl ?_
  refine f_callS A0 d25_1 (pc' := 4) rfl (wd hw 133 rfl) (wd hw 134 rfl) (wd hw 73 rfl) (wd hw 135 rfl) (by decide) pd2 [(.int (Int32.ofNat n))] [] rfl rfl rfl 0 (Nat.le_of_eq rfl) (CN.pay (W := 0) A0 (m_nbf l Z a0 hw n h0 n0 A0.old hn) (wd hw 135 rfl) (wd hw 73 rfl) (by decide) (by decide)) (kc := 1) (ks := 72) (by decide) (by decide) all0 (fun q => nomatch q) fun v30 T30 h30 L30 A30 K30 q30 => ?_
  have Q31 : Keep h0 h30 [] := K0.trans K30 all0
  obtain ⟨v, kb, rfl, vg, V30⟩ := q30
  show Wp pG e below _ T30 (mkF m 4 _ [(.ref v)])
  refine f_astoreN A30 d25_4 (pc' := 5) rfl rfl (L' := #[.val (.ref b), .val (.int (0 : Int32)), .val (.int (Int32.ofNat n)), .val (.ref v), .unset]) rfl ?_
  refine f_iconst A30 d25_5 (pc' := 6) rfl 0 rfl ?_
  refine f_istore A30 d25_6 (pc' := 8) rfl (L' := #[.val (.ref b), .val (.int (0 : Int32)), .val (.int (Int32.ofNat n)), .val (.ref v), .val (.int (0 : Int32))]) rfl ?_
  have c32 := (B.keep K30 nin0)
  have gv : n0 ≤ v := (Nat.le_trans A0.sz vg)
  have nbv : b ≠ v := (Nat.ne_of_lt (Nat.lt_of_lt_of_le B.lt vg))
  have loop : ∀ (k i : Nat) (T : State) (h : Heap) (locs : List Loc) (P : Outcome → State → Prop), i + k = n → WS pG l e ({ frames := 2, cells := 1, slots := 72, locals := 40 } : Room) s m #[(.ref b), (.int (0 : Int32)), (.int (Int32.ofNat n))] below meth cO Z [] n0 "java/lang/StringUTF16" jdk_52_method_14_code 5 false s.vm T h locs 1 72 → Arv Z h v kb .byte (Int32.ofNat (2 * n)) (StrChars.Road.wideBytes (cs.take i) ++ List.replicate (2 * k) (.int 0)) (.int 0) → Arv Z h b kC .char (Int32.ofNat n) (cs.map Value.int) dd → (∀ (T' : State) (h' : Heap) (locs' : List Loc), WS pG l e ({ frames := 2, cells := 1, slots := 72, locals := 40 } : Room) s m #[(.ref b), (.int (0 : Int32)), (.int (Int32.ofNat n))] below meth cO Z [] n0 "java/lang/StringUTF16" jdk_52_method_14_code 5 false s.vm T' h' locs' 1 72 → Keep h h' [v] → Arv Z h' v kb .byte (Int32.ofNat (2 * n)) (StrChars.Road.wideBytes cs) (.int 0) → Wp pG e below P T' (mkF m 32 #[.val (.ref b), .val (.int (Int32.ofNat n)), .val (.int (Int32.ofNat n)), .val (.ref v), .val (.int (Int32.ofNat n))] [])) → Wp pG e below P T (mkF m 8 #[.val (.ref b), .val (.int (Int32.ofNat i)), .val (.int (Int32.ofNat n)), .val (.ref v), .val (.int (Int32.ofNat i))] []) := by
    intro k
    induction k with
    | zero =>
      intro i T h locs P hik A Va Ba kk
      obtain rfl : i = n := by omega
      refine f_iload A d25_8 (pc' := 10) rfl rfl ?_
      refine f_iloadN A d25_10 (pc' := 11) rfl rfl ?_
      refine f_icY A d25_11 (flt (fun q => by rw [ofn_lt (by omega) (by omega)] at q; omega)).2.1 (pc' := 32) (by decide) (by decide) ?_
      refine kk T h locs A (Keep.refl _ _) ?_
      rw [List.take_of_length_le (by omega)] at Va; simpa using Va
    | succ k ih =>
      intro i T h locs P hik A Va Ba kk
      have K0 : Keep h h [v] := Keep.refl _ _
      have hin : i < n := by omega
      refine f_iload A d25_8 (pc' := 10) rfl rfl ?_
      refine f_iloadN A d25_10 (pc' := 11) rfl rfl ?_
      refine f_icN A d25_11 (tlt ((ofn_lt (by omega) (by omega)).mpr hin)).2.1 (pc' := 14) rfl ?_
      refine f_aloadN A d25_14 (pc' := 15) rfl rfl rfl ?_
      refine f_iload A d25_15 (pc' := 17) rfl rfl ?_
      refine f_aloadN A d25_17 (pc' := 18) rfl rfl rfl ?_
      refine f_iloadN A d25_18 (pc' := 19) rfl rfl ?_
      refine f_caload A d25_19 (pc' := 20) rfl Ba (ofn_in hin (by omega)) (v := (.int (cs.getD i 0))) (by rw [ofn_clamp (by omega)]; exact getDm _ (by omega)) ?_
      refine f_callS A d25_20 (pc' := 23) rfl (wd hw 140 rfl) (wd hw 141 rfl) (wd hw 73 rfl) (wd hw 142 rfl) (by decide) pd3 [(.ref v), (.int (Int32.ofNat i)), (.int (cs.getD i 0))] [] rfl rfl rfl 0 (Nat.le_of_eq rfl) (CN.pay (W := 0) A (m_putCh l Z a0 hw v kb _ i n (cs.getD i 0) Oa Oh Ol h n0 A.old Va hin (by omega) (by rw [List.length_append, wlen, List.length_take, List.length_replicate]; omega) gv) (wd hw 142 rfl) (wd hw 73 rfl) (by decide) (by decide)) (kc := 0) (ks := 0) (by decide) (by decide) (allS gv all0) (fun q => nomatch q) fun v33 T33 h33 L33 A33 K33 q33 => ?_
      have Q34 : Keep h h33 [v] := K0.trans K33 (allS (Or.inl (List.mem_of_getElem? (i := 0) rfl)) all0)
      obtain ⟨rfl, V33⟩ := q33
      show Wp pG e below _ T33 (mkF m 23 _ [])
      refine f_iinc A33 d25_23 (pc' := 26) rfl rfl (Int32.ofNat (i + 1)) (ofn_one (by omega)) (L' := #[.val (.ref b), .val (.int (Int32.ofNat (i + 1))), .val (.int (Int32.ofNat n)), .val (.ref v), .val (.int (Int32.ofNat i))]) rfl ?_
      refine f_iinc A33 d25_26 (pc' := 29) rfl rfl (Int32.ofNat (i + 1)) (ofn_one (by omega)) (L' := #[.val (.ref b), .val (.int (Int32.ofNat (i + 1))), .val (.int (Int32.ofNat n)), .val (.ref v), .val (.int (Int32.ofNat (i + 1)))]) rfl ?_
      refine f_goto A33 d25_29 (pc' := 8) (by decide) (by decide) ?_
      have c35 := (Ba.keep K33 (ninS nbv nin0))
      rw [rep2, set2 (by rw [wlen, List.length_take]; omega)] at V33
      refine ih (i + 1) _ _ _ P (by omega) A33 ?_ c35 (fun T' h' locs' A' K' V' => kk T' h' locs' A' (Q34.trans K' (allS (Or.inl (List.mem_of_getElem? (i := 0) rfl)) all0)) V')
      rw [take1 (by omega), wapp, List.append_assoc]; exact V33
  refine loop n 0 _ _ _ _ (by omega) A30 (by simpa [StrChars.Road.wideBytes] using V30) c32 fun T36 h36 L36 A36 K36 V36 => ?_
  have Q37 : Keep h0 h36 [] := Q31.trans K36 (allS (Or.inr (Nat.le_trans K0.1 vg)) all0)
  refine f_aloadN A36 d25_32 (pc' := 33) rfl rfl rfl ?_
  exact f_retRN A36 hlk hret d25_33 rfl rfl (by decide) (by decide) Q37 ⟨v, kb, rfl, (Nat.le_trans K0.1 vg), V36⟩
theorem d16_0 : decode jdk_52_method_21_code 0 = .ok (.iconst 0, 1) := by decide +kernel
theorem d16_1 : decode jdk_52_method_21_code 1 = .ok (.istore 5, 2) := by decide +kernel
theorem d16_3 : decode jdk_52_method_21_code 3 = .ok (.iload 5, 2) := by decide +kernel
theorem d16_5 : decode jdk_52_method_21_code 5 = .ok (.iload 4, 2) := by decide +kernel
theorem d16_7 : decode jdk_52_method_21_code 7 = .ok (.if_icmp .ge 37, 3) := by decide +kernel
theorem d16_10 : decode jdk_52_method_21_code 10 = .ok (.aload_n 0, 1) := by decide +kernel
theorem d16_11 : decode jdk_52_method_21_code 11 = .ok (.iload_n 1, 1) := by decide +kernel
theorem d16_12 : decode jdk_52_method_21_code 12 = .ok (.caload, 1) := by decide +kernel
theorem d16_13 : decode jdk_52_method_21_code 13 = .ok (.istore 6, 2) := by decide +kernel
theorem d16_15 : decode jdk_52_method_21_code 15 = .ok (.iload 6, 2) := by decide +kernel
theorem d16_17 : decode jdk_52_method_21_code 17 = .ok (.sipush 255, 3) := by decide +kernel
theorem d16_20 : decode jdk_52_method_21_code 20 = .ok (.if_icmp .le 6, 3) := by decide +kernel
theorem d16_23 : decode jdk_52_method_21_code 23 = .ok (.iload 5, 2) := by decide +kernel
theorem d16_25 : decode jdk_52_method_21_code 25 = .ok (.ireturn, 1) := by decide +kernel
theorem d16_26 : decode jdk_52_method_21_code 26 = .ok (.aload_n 2, 1) := by decide +kernel
theorem d16_27 : decode jdk_52_method_21_code 27 = .ok (.iload_n 3, 1) := by decide +kernel
theorem d16_28 : decode jdk_52_method_21_code 28 = .ok (.iload 6, 2) := by decide +kernel
theorem d16_30 : decode jdk_52_method_21_code 30 = .ok (.i2b, 1) := by decide +kernel
theorem d16_31 : decode jdk_52_method_21_code 31 = .ok (.bastore, 1) := by decide +kernel
theorem d16_32 : decode jdk_52_method_21_code 32 = .ok (.iinc 1 1, 3) := by decide +kernel
theorem d16_35 : decode jdk_52_method_21_code 35 = .ok (.iinc 3 1, 3) := by decide +kernel
theorem d16_38 : decode jdk_52_method_21_code 38 = .ok (.iinc 5 1, 3) := by decide +kernel
theorem d16_41 : decode jdk_52_method_21_code 41 = .ok (.goto (-38), 3) := by decide +kernel
set_option maxRecDepth 65536 in
set_option maxHeartbeats 40000000 in
theorem m_cmp5W (l : Launch) (Z : State) (a0 : Array Value) (hw : ∀ d ∈ tables_1, d.before a0 Z = true) (b : Addr) (kC : ClassId) (n : Nat) (cs : List Int32) (dd : Value) (d : Addr) (kd : ClassId) (vs : List Value) (j : Nat) (h0 : Heap) (n0 : Nat) (ho : Old Z n0 h0) (B : Arv Z h0 b kC .char (Int32.ofNat n) (cs.map Value.int) dd) (hcs : cs.length = n) (hn : n ≤ 36) (Vd : Arv Z h0 d kd .byte (Int32.ofNat n) vs (.int 0)) (hvs : vs.length = n) (gd : n0 ≤ d) (nbd : b ≠ d) (hj : j < n) (hpre : ∀ i, i < j → ¬ (255 : Int32) < cs.getD i 0) (hw8 : (255 : Int32) < cs.getD j 0) :
    CN l (⟨"java/lang/StringUTF16", "compress", "([CI[BII)I"⟩ : MethodName) jdk_52_method_21_code 7 (some .int) [] ({ frames := 0, cells := 0, slots := 0, locals := 0 } : Room) Z n0 h0 #[(.ref b), (.int (0 : Int32)), (.ref d), (.int (0 : Int32)), (.int (Int32.ofNat n))] [d] (fun r h => r = some (.int (Int32.ofNat j))) := by
  refine CN.walk (plainFor_of_name pn1) ho (L0 := #[.val (.ref b), .val (.int (0 : Int32)), .val (.ref d), .val (.int (0 : Int32)), .val (.int (Int32.ofNat n)), .unset, .unset]) (fun m => rfl) ?_
  intro pG e s m below meth cO T hlk hret hnm A0
  have K0 : Keep h0 h0 [d] := Keep.refl _ _
  refine f_iconst A0 d16_0 (pc' := 1) rfl 0 rfl ?_
  refine f_istore A0 d16_1 (pc' := 3) rfl (L' := #[.val (.ref b), .val (.int (0 : Int32)), .val (.ref d), .val (.int (0 : Int32)), .val (.int (Int32.ofNat n)), .val (.int (0 : Int32)), .unset]) rfl ?_
  have loop : ∀ (k i : Nat) (T : State) (h : Heap) (locs : List Loc) (o : Slot) (vs : List Value), i + k = j → One o → vs.length = n → WS pG l e ({ frames := 0, cells := 0, slots := 0, locals := 0 } : Room) s m #[(.ref b), (.int (0 : Int32)), (.ref d), (.int (0 : Int32)), (.int (Int32.ofNat n))] below meth cO Z [] n0 "java/lang/StringUTF16" jdk_52_method_21_code 7 false s.vm T h locs 0 0 → Arv Z h d kd .byte (Int32.ofNat n) vs (.int 0) → Arv Z h b kC .char (Int32.ofNat n) (cs.map Value.int) dd → Keep h0 h [d] → Wp pG e below (PN s n0 h0 [d] (fun r h => r = some (.int (Int32.ofNat j))) 0 0) T (mkF m 3 #[.val (.ref b), .val (.int (Int32.ofNat i)), .val (.ref d), .val (.int (Int32.ofNat i)), .val (.int (Int32.ofNat n)), .val (.int (Int32.ofNat i)), o] []) := by
    intro k
    induction k with
    | zero =>
      intro i T h locs o vs hik ho hvs A Vd Ba Kh
      have hin : i < n := by omega
      refine f_iload A d16_3 (pc' := 5) rfl rfl ?_
      refine f_iload A d16_5 (pc' := 7) rfl rfl ?_
      refine f_icN A d16_7 (tlt ((ofn_lt (by omega) (by omega)).mpr hin)).2.1 (pc' := 10) rfl ?_
      refine f_aloadN A d16_10 (pc' := 11) rfl rfl rfl ?_
      refine f_iloadN A d16_11 (pc' := 12) rfl rfl ?_
      refine f_caload A d16_12 (pc' := 13) rfl Ba (ofn_in hin (by omega)) (v := (.int (cs.getD i 0))) (by rw [ofn_clamp (by omega)]; exact getDm _ (by omega)) ?_
      refine f_istore A d16_13 (pc' := 15) rfl (L' := #[.val (.ref b), .val (.int (Int32.ofNat i)), .val (.ref d), .val (.int (Int32.ofNat i)), .val (.int (Int32.ofNat n)), .val (.int (Int32.ofNat i)), .val (.int (cs.getD i 0))]) (by exact XS.store1 rfl ho rfl) ?_
      refine f_iload A d16_15 (pc' := 17) rfl rfl ?_
      refine f_sipush A d16_17 (pc' := 20) rfl 255 rfl ?_
      have hij : i = j := by omega
      refine f_icN A d16_20 (tlt (by rw [hij]; exact hw8)).2.2.2 (pc' := 23) rfl ?_
      refine f_iload A d16_23 (pc' := 25) rfl rfl ?_
      exact f_retIN A hlk hret d16_25 (by decide) (by decide) Kh (by rw [hij])
    | succ k ih =>
      intro i T h locs o vs hik ho hvs A Vd Ba Kh
      have hin : i < n := by omega
      refine f_iload A d16_3 (pc' := 5) rfl rfl ?_
      refine f_iload A d16_5 (pc' := 7) rfl rfl ?_
      refine f_icN A d16_7 (tlt ((ofn_lt (by omega) (by omega)).mpr hin)).2.1 (pc' := 10) rfl ?_
      refine f_aloadN A d16_10 (pc' := 11) rfl rfl rfl ?_
      refine f_iloadN A d16_11 (pc' := 12) rfl rfl ?_
      refine f_caload A d16_12 (pc' := 13) rfl Ba (ofn_in hin (by omega)) (v := (.int (cs.getD i 0))) (by rw [ofn_clamp (by omega)]; exact getDm _ (by omega)) ?_
      refine f_istore A d16_13 (pc' := 15) rfl (L' := #[.val (.ref b), .val (.int (Int32.ofNat i)), .val (.ref d), .val (.int (Int32.ofNat i)), .val (.int (Int32.ofNat n)), .val (.int (Int32.ofNat i)), .val (.int (cs.getD i 0))]) (by exact XS.store1 rfl ho rfl) ?_
      refine f_iload A d16_15 (pc' := 17) rfl rfl ?_
      refine f_sipush A d16_17 (pc' := 20) rfl 255 rfl ?_
      refine f_icY A d16_20 (flt (hpre i (by omega))).2.2.2 (pc' := 26) (by decide) (by decide) ?_
      refine f_aloadN A d16_26 (pc' := 27) rfl rfl rfl ?_
      refine f_iloadN A d16_27 (pc' := 28) rfl rfl ?_
      refine f_iload A d16_28 (pc' := 30) rfl rfl ?_
      refine f_i2b A d16_30 (pc' := 31) rfl (StrChars.lo8 (cs.getD i 0)) rfl ?_
      refine f_bastore A d16_31 (pc' := 32) rfl Vd (ofn_in hin (by omega)) i (ofn_clamp (by omega)) (by omega) (StrChars.lo8 (cs.getD i 0)) (lo88 _) (vs' := (vs.set i (.int (StrChars.lo8 (cs.getD i 0))))) rfl gd (fun q => nomatch q) fun T38 h38 A38 K38 V38 => ?_
      have Q39 : Keep h0 h38 [d] := Kh.trans K38 (allS (Or.inl (List.mem_of_getElem? (i := 0) rfl)) all0)
      refine f_iinc A38 d16_32 (pc' := 35) rfl rfl (Int32.ofNat (i + 1)) (ofn_one (by omega)) (L' := #[.val (.ref b), .val (.int (Int32.ofNat (i + 1))), .val (.ref d), .val (.int (Int32.ofNat i)), .val (.int (Int32.ofNat n)), .val (.int (Int32.ofNat i)), .val (.int (cs.getD i 0))]) rfl ?_
      refine f_iinc A38 d16_35 (pc' := 38) rfl rfl (Int32.ofNat (i + 1)) (ofn_one (by omega)) (L' := #[.val (.ref b), .val (.int (Int32.ofNat (i + 1))), .val (.ref d), .val (.int (Int32.ofNat (i + 1))), .val (.int (Int32.ofNat n)), .val (.int (Int32.ofNat i)), .val (.int (cs.getD i 0))]) rfl ?_
      refine f_iinc A38 d16_38 (pc' := 41) rfl rfl (Int32.ofNat (i + 1)) (ofn_one (by omega)) (L' := #[.val (.ref b), .val (.int (Int32.ofNat (i + 1))), .val (.ref d), .val (.int (Int32.ofNat (i + 1))), .val (.int (Int32.ofNat n)), .val (.int (Int32.ofNat (i + 1))), .val (.int (cs.getD i 0))]) rfl ?_
      refine f_goto A38 d16_41 (pc' := 3) (by decide) (by decide) ?_
      have c40 := (Ba.keep K38 (ninS nbd nin0))
      exact ih (i + 1) _ _ _ _ _ (by omega) (One.val rfl) (by rw [List.length_set]; exact hvs) A38 V38 c40 Q39
  exact loop j 0 _ _ _ _ _ (by omega) One.u hvs A0 Vd B K0
theorem d29_0 : decode jdk_52_method_5_code 0 = .ok (.getstatic 44, 3) := by decide +kernel
theorem d29_3 : decode jdk_52_method_5_code 3 = .ok (.ifCond .ne 25, 3) := by decide +kernel
theorem d29_28 : decode jdk_52_method_5_code 28 = .ok (.iload_n 1, 1) := by decide +kernel
theorem d29_29 : decode jdk_52_method_5_code 29 = .ok (.iconst 1, 1) := by decide +kernel
theorem d29_30 : decode jdk_52_method_5_code 30 = .ok (.ishl, 1) := by decide +kernel
theorem d29_31 : decode jdk_52_method_5_code 31 = .ok (.istore_n 1, 1) := by decide +kernel
theorem d29_32 : decode jdk_52_method_5_code 32 = .ok (.aload_n 0, 1) := by decide +kernel
theorem d29_33 : decode jdk_52_method_5_code 33 = .ok (.iload_n 1, 1) := by decide +kernel
theorem d29_34 : decode jdk_52_method_5_code 34 = .ok (.iinc 1 1, 3) := by decide +kernel
theorem d29_37 : decode jdk_52_method_5_code 37 = .ok (.baload, 1) := by decide +kernel
theorem d29_38 : decode jdk_52_method_5_code 38 = .ok (.sipush 255, 3) := by decide +kernel
theorem d29_41 : decode jdk_52_method_5_code 41 = .ok (.iand, 1) := by decide +kernel
theorem d29_42 : decode jdk_52_method_5_code 42 = .ok (.getstatic 59, 3) := by decide +kernel
theorem d29_45 : decode jdk_52_method_5_code 45 = .ok (.ishl, 1) := by decide +kernel
theorem d29_46 : decode jdk_52_method_5_code 46 = .ok (.aload_n 0, 1) := by decide +kernel
theorem d29_47 : decode jdk_52_method_5_code 47 = .ok (.iload_n 1, 1) := by decide +kernel
theorem d29_48 : decode jdk_52_method_5_code 48 = .ok (.baload, 1) := by decide +kernel
theorem d29_49 : decode jdk_52_method_5_code 49 = .ok (.sipush 255, 3) := by decide +kernel
theorem d29_52 : decode jdk_52_method_5_code 52 = .ok (.iand, 1) := by decide +kernel
theorem d29_53 : decode jdk_52_method_5_code 53 = .ok (.getstatic 63, 3) := by decide +kernel
theorem d29_56 : decode jdk_52_method_5_code 56 = .ok (.ishl, 1) := by decide +kernel
theorem d29_57 : decode jdk_52_method_5_code 57 = .ok (.ior, 1) := by decide +kernel
theorem d29_58 : decode jdk_52_method_5_code 58 = .ok (.i2c, 1) := by decide +kernel
theorem d29_59 : decode jdk_52_method_5_code 59 = .ok (.ireturn, 1) := by decide +kernel
set_option maxRecDepth 65536 in
set_option maxHeartbeats 40000000 in
theorem m_getCh (l : Launch) (Z : State) (a0 : Array Value) (hw : ∀ d ∈ tables_1, d.before a0 Z = true) (v : Addr) (kb : ClassId) (n : Nat) (cs : List Int32) (i : Nat) (Oa : Sta Z Z.heap "java/lang/StringUTF16" "$assertionsDisabled" "Z" (.int 1)) (Oh : Sta Z Z.heap "java/lang/StringUTF16" "HI_BYTE_SHIFT" "I" (.int 0)) (Ol : Sta Z Z.heap "java/lang/StringUTF16" "LO_BYTE_SHIFT" "I" (.int 8)) (h0 : Heap) (n0 : Nat) (ho : Old Z n0 h0) (V : Arv Z h0 v kb .byte (Int32.ofNat (2 * n)) (StrChars.Road.wideBytes cs) (.int 0)) (hcs : cs.length = n) (hn : n ≤ 36) (hi : i < n) (hbd : ∀ c ∈ cs, ¬ c < 0 ∧ ¬ (65535 : Int32) < c) :
    CN l (⟨"java/lang/StringUTF16", "getChar", "([BI)C"⟩ : MethodName) jdk_52_method_5_code 2 (some .char) [] ({ frames := 0, cells := 0, slots := 0, locals := 0 } : Room) Z n0 h0 #[(.ref v), (.int (Int32.ofNat i))] [] (fun r h => r = some (.int (cs.getD i 0)) ∧ h = h0) := by
  refine CN.walk (plainFor_of_name pn1) ho (L0 := #[.val (.ref v), .val (.int (Int32.ofNat i))]) (fun m => rfl) ?_
  intro pG e s m below meth cO T hlk hret hnm A0
  have K0 : Keep h0 h0 [] := Keep.refl _ _
  have hc0 : ¬ (cs.getD i 0) < 0 ∧ ¬ (65535 : Int32) < (cs.getD i 0) := hbd _ (by simp [List.getD_eq_getElem?_getD, show i < cs.length by omega])
  have hps := StrChars.pair_says hc0.1 hc0.2
  refine f_getS A0 d29_0 (pc' := 3) rfl (host := "") (Or.inl (wd hw 143 rfl)) Via.refl Oa fun T41 A41 => ?_
  refine f_ifY A41 d29_3 ((if0 _ _).trans (feq (by decide : ¬ (1 : Int32) = (0 : Int32))).2) (pc' := 28) (by decide) (by decide) ?_
  refine f_iloadN A41 d29_28 (pc' := 29) rfl rfl ?_
  refine f_iconst A41 d29_29 (pc' := 30) rfl 1 rfl ?_
  refine f_ishl A41 d29_30 (pc' := 31) rfl (Int32.ofNat (2 * i)) (ofn_shl (by omega)) ?_
  refine f_istoreN A41 d29_31 (pc' := 32) rfl (L' := #[.val (.ref v), .val (.int (Int32.ofNat (2 * i)))]) rfl ?_
  refine f_aloadN A41 d29_32 (pc' := 33) rfl rfl rfl ?_
  refine f_iloadN A41 d29_33 (pc' := 34) rfl rfl ?_
  refine f_iinc A41 d29_34 (pc' := 37) rfl rfl (Int32.ofNat (2 * i + 1)) (ofn_one (by omega)) (L' := #[.val (.ref v), .val (.int (Int32.ofNat (2 * i + 1)))]) rfl ?_
  refine f_baload A41 d29_37 (pc' := 38) rfl V (ofn_in (by omega) (by omega)) (v := (.int (StrChars.lo8 (cs.getD i 0)))) (by rw [ofn_clamp (by omega)]; exact StrChars.Road.wide_lo _ _ _ (by omega)) ?_
  refine f_sipush A41 d29_38 (pc' := 41) rfl 255 rfl ?_
  refine f_iand A41 d29_41 (pc' := 42) rfl ((StrChars.lo8 (cs.getD i 0)) &&& (255 : Int32)) rfl ?_
  refine f_getS A41 d29_42 (pc' := 45) rfl (host := "") (Or.inl (wd hw 144 rfl)) Via.refl Oh fun T42 A42 => ?_
  refine f_ishl A42 d29_45 (pc' := 46) rfl (((StrChars.lo8 (cs.getD i 0)) &&& (255 : Int32)) <<< ((0 : Int32) &&& 31)) rfl ?_
  refine f_aloadN A42 d29_46 (pc' := 47) rfl rfl rfl ?_
  refine f_iloadN A42 d29_47 (pc' := 48) rfl rfl ?_
  refine f_baload A42 d29_48 (pc' := 49) rfl V (ofn_in (by omega) (by omega)) (v := (.int (StrChars.hi8 (cs.getD i 0)))) (by rw [ofn_clamp (by omega)]; exact StrChars.Road.wide_hi _ _ _ (by omega)) ?_
  refine f_sipush A42 d29_49 (pc' := 52) rfl 255 rfl ?_
  refine f_iand A42 d29_52 (pc' := 53) rfl ((StrChars.hi8 (cs.getD i 0)) &&& (255 : Int32)) rfl ?_
  refine f_getS A42 d29_53 (pc' := 56) rfl (host := "") (Or.inl (wd hw 145 rfl)) Via.refl Ol fun T43 A43 => ?_
  refine f_ishl A43 d29_56 (pc' := 57) rfl (((StrChars.hi8 (cs.getD i 0)) &&& (255 : Int32)) <<< ((8 : Int32) &&& 31)) rfl ?_
  refine f_ior A43 d29_57 (pc' := 58) rfl ((((StrChars.lo8 (cs.getD i 0)) &&& (255 : Int32)) <<< ((0 : Int32) &&& 31)) ||| (((StrChars.hi8 (cs.getD i 0)) &&& (255 : Int32)) <<< ((8 : Int32) &&& 31))) rfl ?_
  refine f_i2c A43 d29_58 (pc' := 59) rfl (cs.getD i 0) hps ?_
  exact f_retBN A43 hlk hret d29_59 (by decide) (cs.getD i 0) (nar_id (by have q := hc0; rw [lt_i, lt_i] at q; have e1 : (65535 : Int32).toInt = 65535 := rfl; have e2 : (0 : Int32).toInt = 0 := rfl; omega)) (by decide) (by decide) K0 ⟨rfl, rfl⟩
theorem d15_0 : decode jdk_52_method_16_code 0 = .ok (.iload_n 2, 1) := by decide +kernel
theorem d15_1 : decode jdk_52_method_16_code 1 = .ok (.newarray .byte, 2) := by decide +kernel
theorem d15_3 : decode jdk_52_method_16_code 3 = .ok (.astore_n 3, 1) := by decide +kernel
theorem d15_4 : decode jdk_52_method_16_code 4 = .ok (.aload_n 0, 1) := by decide +kernel
theorem d15_5 : decode jdk_52_method_16_code 5 = .ok (.iload_n 1, 1) := by decide +kernel
theorem d15_6 : decode jdk_52_method_16_code 6 = .ok (.aload_n 3, 1) := by decide +kernel
theorem d15_7 : decode jdk_52_method_16_code 7 = .ok (.iconst 0, 1) := by decide +kernel
theorem d15_8 : decode jdk_52_method_16_code 8 = .ok (.iload_n 2, 1) := by decide +kernel
theorem d15_9 : decode jdk_52_method_16_code 9 = .ok (.invokestatic 115, 3) := by decide +kernel
theorem pd4 : parseMethodDescriptor "([CI[BII)I" = some ⟨[(.array .char), .int, (.array .byte), .int, .int], some .int⟩ := by decide +kernel
theorem d15_12 : decode jdk_52_method_16_code 12 = .ok (.istore 4, 2) := by decide +kernel
theorem d15_14 : decode jdk_52_method_16_code 14 = .ok (.iload 4, 2) := by decide +kernel
theorem d15_16 : decode jdk_52_method_16_code 16 = .ok (.iload_n 2, 1) := by decide +kernel
theorem d15_17 : decode jdk_52_method_16_code 17 = .ok (.if_icmp .eq 40, 3) := by decide +kernel
theorem d15_20 : decode jdk_52_method_16_code 20 = .ok (.aload_n 0, 1) := by decide +kernel
theorem d15_21 : decode jdk_52_method_16_code 21 = .ok (.iload_n 1, 1) := by decide +kernel
theorem d15_22 : decode jdk_52_method_16_code 22 = .ok (.iload_n 2, 1) := by decide +kernel
theorem d15_23 : decode jdk_52_method_16_code 23 = .ok (.invokestatic 119, 3) := by decide +kernel
theorem pd5 : parseMethodDescriptor "([CII)[B" = some ⟨[(.array .char), .int, .int], some (.array .byte)⟩ := by decide +kernel
theorem d15_26 : decode jdk_52_method_16_code 26 = .ok (.astore 5, 2) := by decide +kernel
theorem d15_28 : decode jdk_52_method_16_code 28 = .ok (.aload 5, 2) := by decide +kernel
theorem d15_30 : decode jdk_52_method_16_code 30 = .ok (.iload 4, 2) := by decide +kernel
theorem d15_32 : decode jdk_52_method_16_code 32 = .ok (.invokestatic 71, 3) := by decide +kernel
theorem pd6 : parseMethodDescriptor "([BI)C" = some ⟨[(.array .byte), .int], some .char⟩ := by decide +kernel
theorem d15_35 : decode jdk_52_method_16_code 35 = .ok (.sipush 255, 3) := by decide +kernel
theorem d15_38 : decode jdk_52_method_16_code 38 = .ok (.if_icmp .gt 16, 3) := by decide +kernel
theorem d15_54 : decode jdk_52_method_16_code 54 = .ok (.aload 5, 2) := by decide +kernel
theorem d15_56 : decode jdk_52_method_16_code 56 = .ok (.areturn, 1) := by decide +kernel
set_option maxRecDepth 65536 in
set_option maxHeartbeats 40000000 in
theorem m_cmp3W (l : Launch) (Z : State) (a0 : Array Value) (hw : ∀ d ∈ tables_1, d.before a0 Z = true) (b : Addr) (kC : ClassId) (n : Nat) (cs : List Int32) (dd : Value) (j : Nat) (Oa : Sta Z Z.heap "java/lang/StringUTF16" "$assertionsDisabled" "Z" (.int 1)) (Oh : Sta Z Z.heap "java/lang/StringUTF16" "HI_BYTE_SHIFT" "I" (.int 0)) (Ol : Sta Z Z.heap "java/lang/StringUTF16" "LO_BYTE_SHIFT" "I" (.int 8)) (h0 : Heap) (n0 : Nat) (ho : Old Z n0 h0) (B : Arv Z h0 b kC .char (Int32.ofNat n) (cs.map Value.int) dd) (hcs : cs.length = n) (hn : n ≤ 36) (hj : j < n) (hpre : ∀ i, i < j → ¬ (255 : Int32) < cs.getD i 0) (hw8 : (255 : Int32) < cs.getD j 0) (hbd : ∀ c ∈ cs, ¬ c < 0 ∧ ¬ (65535 : Int32) < c) :
    CN l (⟨"java/lang/StringUTF16", "compress", "([CII)[B"⟩ : MethodName) jdk_52_method_16_code 6 (some (.array .byte)) [] ({ frames := 3, cells := 2, slots := 108, locals := 60 } : Room) Z n0 h0 #[(.ref b), (.int (0 : Int32)), (.int (Int32.ofNat n))] [] (fun r h => ∃ (t : Addr) (kb : ClassId), r = some (.ref t) ∧ h0.size ≤ t ∧ Arv Z h t kb .byte (Int32.ofNat (2 * n)) (StrChars.Road.wideBytes cs) (.int 0)) := by
  refine CN.walk (plainFor_of_name pn1) ho (L0 := #[.val (.ref b), .val (.int (0 : Int32)), .val (.int (Int32.ofNat n)), .unset, .unset, .unset]) (fun m => rfl) ?_
  intro pG e s m below meth cO T hlk hret hnm A0
  have K0 : Keep h0 h0 [] := Keep.refl _ _
  refine f_iloadN A0 d15_0 (pc' := 1) rfl rfl ?_
  refine f_newP A0 36 d15_1 (pc' := 3) rfl (wd hw 7 rfl) (ofn_nn (by omega)) (by rw [ofn_clamp (by omega)]; omega) (by decide) (by decide) (by decide) (ad := "[B") (by decide) fun a44 T44 h44 k44 g44 A44 E44 F44 X44 => ?_
  have z44 : n0 ≤ a44 := Nat.le_trans A0.sz (Nat.le_of_eq g44.symm)
  have y44 : h0.size ≤ a44 := Nat.le_trans K0.1 (Nat.le_of_eq g44.symm)
  have Q45 : Keep h0 h44 [] := K0.ext E44
  have V44 := F44
  refine f_astoreN A44 d15_3 (pc' := 4) rfl rfl (L' := #[.val (.ref b), .val (.int (0 : Int32)), .val (.int (Int32.ofNat n)), .val (.ref a44), .unset, .unset]) rfl ?_
  refine f_aloadN A44 d15_4 (pc' := 5) rfl rfl rfl ?_
  refine f_iloadN A44 d15_5 (pc' := 6) rfl rfl ?_
  refine f_aloadN A44 d15_6 (pc' := 7) rfl rfl rfl ?_
  refine f_iconst A44 d15_7 (pc' := 8) rfl 0 rfl ?_
  refine f_iloadN A44 d15_8 (pc' := 9) rfl rfl ?_
  have c46 := (B.ext E44)
  refine f_callS A44 d15_9 (pc' := 12) rfl (wd hw 75 rfl) (wd hw 76 rfl) (wd hw 73 rfl) (wd hw 77 rfl) (by decide) pd4 [(.ref b), (.int (0 : Int32)), (.ref a44), (.int (0 : Int32)), (.int (Int32.ofNat n))] [] rfl rfl rfl 0 (Nat.le_of_eq rfl) (CN.pay (W := 0) A44 (m_cmp5W l Z a0 hw b kC n cs dd a44 k44 (List.replicate n (.int 0)) j h44 n0 A44.old c46 hcs hn (V44.pad (pad_rep [] (.int 0) n)) List.length_replicate z44 (Nat.ne_of_lt (Nat.lt_of_lt_of_le B.lt (Nat.le_of_eq g44.symm))) hj hpre hw8) (wd hw 77 rfl) (wd hw 73 rfl) (by decide) (by decide)) (kc := 0) (ks := 0) (by decide) (by decide) (allS z44 all0) (fun q => nomatch q) fun v47 T47 h47 L47 A47 K47 q47 => ?_
  have Q48 : Keep h0 h47 [] := Q45.trans K47 (allS (Or.inr y44) all0)
  obtain rfl := q47
  show Wp pG e below _ T47 (mkF m 12 _ [(.int (Int32.ofNat j))])
  refine f_istore A47 d15_12 (pc' := 14) rfl (L' := #[.val (.ref b), .val (.int (0 : Int32)), .val (.int (Int32.ofNat n)), .val (.ref a44), .val (.int (Int32.ofNat j)), .unset]) rfl ?_
  refine f_iload A47 d15_14 (pc' := 16) rfl rfl ?_
  refine f_iloadN A47 d15_16 (pc' := 17) rfl rfl ?_
  refine f_icN A47 d15_17 (feq (fun q => by have q2 := congrArg Int32.toInt q; rw [ofn (by omega), ofn (by omega)] at q2; omega)).1 (pc' := 20) rfl ?_
  refine f_aloadN A47 d15_20 (pc' := 21) rfl rfl rfl ?_
  refine f_iloadN A47 d15_21 (pc' := 22) rfl rfl ?_
  refine f_iloadN A47 d15_22 (pc' := 23) rfl rfl ?_
  have c49 := (c46.keep K47 (ninS (Nat.ne_of_lt (Nat.lt_of_lt_of_le B.lt (Nat.le_of_eq g44.symm))) nin0))
  refine f_callS A47 d15_23 (pc' := 26) rfl (wd hw 130 rfl) (wd hw 131 rfl) (wd hw 73 rfl) (wd hw 132 rfl) (by decide) pd5 [(.ref b), (.int (0 : Int32)), (.int (Int32.ofNat n))] [] rfl rfl rfl 0 (Nat.le_of_eq rfl) (CN.pay (W := 0) A47 (m_toB l Z a0 hw b kC n cs dd Oa Oh Ol h47 n0 A47.old c49 hcs hn) (wd hw 132 rfl) (wd hw 73 rfl) (by decide) (by decide)) (kc := 1) (ks := 72) (by decide) (by decide) all0 (fun q => nomatch q) fun v50 T50 h50 L50 A50 K50 q50 => ?_
  have Q51 : Keep h0 h50 [] := Q48.trans K50 all0
  obtain ⟨t, kt, rfl, tg, V50⟩ := q50
  show Wp pG e below _ T50 (mkF m 26 _ [(.ref t)])
  refine f_astore A50 d15_26 (pc' := 28) rfl rfl (L' := #[.val (.ref b), .val (.int (0 : Int32)), .val (.int (Int32.ofNat n)), .val (.ref a44), .val (.int (Int32.ofNat j)), .val (.ref t)]) rfl ?_
  refine f_aload A50 d15_28 (pc' := 30) rfl rfl rfl ?_
  refine f_iload A50 d15_30 (pc' := 32) rfl rfl ?_
  refine f_callS A50 d15_32 (pc' := 35) rfl (wd hw 146 rfl) (wd hw 147 rfl) (wd hw 73 rfl) (wd hw 148 rfl) (by decide) pd6 [(.ref t), (.int (Int32.ofNat j))] [] rfl rfl rfl 0 (Nat.le_of_eq rfl) (CN.pay (W := 0) A50 (m_getCh l Z a0 hw t kt n cs j Oa Oh Ol h50 n0 A50.old V50 hcs hn hj hbd) (wd hw 148 rfl) (wd hw 73 rfl) (by decide) (by decide)) (kc := 0) (ks := 0) (by decide) (by decide) all0 (fun q => nomatch q) fun v52 T52 h52 L52 A52 K52 q52 => ?_
  obtain ⟨rfl, hh52⟩ := q52
  obtain rfl := hh52.symm
  show Wp pG e below _ T52 (mkF m 35 _ [(.int (cs.getD j 0))])
  refine f_sipush A52 d15_35 (pc' := 38) rfl 255 rfl ?_
  refine f_icY A52 d15_38 (tlt hw8).2.2.1 (pc' := 54) (by decide) (by decide) ?_
  refine f_aload A52 d15_54 (pc' := 56) rfl rfl rfl ?_
  exact f_retRN A52 hlk hret d15_56 rfl rfl (by decide) (by decide) Q51 ⟨t, kt, rfl, (Nat.le_trans Q48.1 tg), V50⟩
theorem d17_0 : decode jdk_52_method_15_code 0 = .ok (.iload_n 1, 1) := by decide +kernel
theorem d17_1 : decode jdk_52_method_15_code 1 = .ok (.aload_n 0, 1) := by decide +kernel
theorem d17_2 : decode jdk_52_method_15_code 2 = .ok (.arraylength, 1) := by decide +kernel
theorem d17_3 : decode jdk_52_method_15_code 3 = .ok (.isub, 1) := by decide +kernel
theorem d17_4 : decode jdk_52_method_15_code 4 = .ok (.bipush 31, 2) := by decide +kernel
theorem d17_6 : decode jdk_52_method_15_code 6 = .ok (.iushr, 1) := by decide +kernel
theorem d17_7 : decode jdk_52_method_15_code 7 = .ok (.i2b, 1) := by decide +kernel
theorem d17_8 : decode jdk_52_method_15_code 8 = .ok (.ireturn, 1) := by decide +kernel
set_option maxRecDepth 65536 in
set_option maxHeartbeats 40000000 in
theorem m_codW (l : Launch) (Z : State) (a0 : Array Value) (hw : ∀ d ∈ tables_1, d.before a0 Z = true) (t : Addr) (kt : ClassId) (n : Nat) (vs : List Value) (h0 : Heap) (n0 : Nat) (ho : Old Z n0 h0) (V : Arv Z h0 t kt .byte (Int32.ofNat (2 * n)) vs (.int 0)) (h0n : 0 < n) (hn : n ≤ 36) :
    CN l (⟨"java/lang/StringUTF16", "coderFromArrayLen", "([BI)B"⟩ : MethodName) jdk_52_method_15_code 2 (some .byte) [] ({ frames := 0, cells := 0, slots := 0, locals := 0 } : Room) Z n0 h0 #[(.ref t), (.int (Int32.ofNat n))] [] (fun r h => r = some (.int 1) ∧ h = h0) := by
  refine CN.walk (plainFor_of_name pn1) ho (L0 := #[.val (.ref t), .val (.int (Int32.ofNat n))]) (fun m => rfl) ?_
  intro pG e s m below meth cO T hlk hret hnm A0
  have K0 : Keep h0 h0 [] := Keep.refl _ _
  refine f_iloadN A0 d17_0 (pc' := 1) rfl rfl ?_
  refine f_aloadN A0 d17_1 (pc' := 2) rfl rfl rfl ?_
  refine f_arraylength A0 d17_2 (pc' := 3) rfl V ?_
  refine f_isub A0 d17_3 (pc' := 4) rfl ((Int32.ofNat n) - (Int32.ofNat (2 * n))) rfl ?_
  refine f_bipush A0 d17_4 (pc' := 6) rfl 31 rfl ?_
  refine f_iushr A0 d17_6 (pc' := 7) rfl (1 : Int32) (cod1 h0n (by omega)) ?_
  refine f_i2b A0 d17_7 (pc' := 8) rfl (1 : Int32) (by decide) ?_
  exact f_retBN A0 hlk hret d17_8 (by decide) (1 : Int32) (by decide) (by decide) (by decide) K0 ⟨rfl, rfl⟩
theorem d13_27 : decode jdk_42_method_149_code 27 = .ok (.getstatic 38, 3) := by decide +kernel
theorem d13_30 : decode jdk_42_method_149_code 30 = .ok (.ifCond .eq 28, 3) := by decide +kernel
theorem d13_33 : decode jdk_42_method_149_code 33 = .ok (.aload_n 1, 1) := by decide +kernel
theorem d13_34 : decode jdk_42_method_149_code 34 = .ok (.iload_n 2, 1) := by decide +kernel
theorem d13_35 : decode jdk_42_method_149_code 35 = .ok (.iload_n 3, 1) := by decide +kernel
theorem d13_36 : decode jdk_42_method_149_code 36 = .ok (.invokestatic 177, 3) := by decide +kernel
theorem d13_39 : decode jdk_42_method_149_code 39 = .ok (.astore 5, 2) := by decide +kernel
theorem d13_41 : decode jdk_42_method_149_code 41 = .ok (.aload_n 0, 1) := by decide +kernel
theorem d13_42 : decode jdk_42_method_149_code 42 = .ok (.aload 5, 2) := by decide +kernel
theorem d13_44 : decode jdk_42_method_149_code 44 = .ok (.iload_n 3, 1) := by decide +kernel
theorem d13_45 : decode jdk_42_method_149_code 45 = .ok (.invokestatic 47, 3) := by decide +kernel
theorem pd7 : parseMethodDescriptor "([BI)B" = some ⟨[(.array .byte), .int], some .byte⟩ := by decide +kernel
theorem d13_48 : decode jdk_42_method_149_code 48 = .ok (.putfield 15, 3) := by decide +kernel
theorem d13_51 : decode jdk_42_method_149_code 51 = .ok (.aload_n 0, 1) := by decide +kernel
theorem d13_52 : decode jdk_42_method_149_code 52 = .ok (.aload 5, 2) := by decide +kernel
theorem d13_54 : decode jdk_42_method_149_code 54 = .ok (.putfield 9, 3) := by decide +kernel
theorem d13_57 : decode jdk_42_method_149_code 57 = .ok (.return_, 1) := by decide +kernel
set_option maxRecDepth 65536 in
set_option maxHeartbeats 40000000 in
theorem m_new4W (l : Launch) (Z : State) (a0 : Array Value) (hw : ∀ d ∈ tables_1, d.before a0 Z = true) (x : Addr) (b : Addr) (kC : ClassId) (n : Nat) (cs : List Int32) (dd : Value) (j : Nat) (Oa : Sta Z Z.heap "java/lang/StringUTF16" "$assertionsDisabled" "Z" (.int 1)) (Oh : Sta Z Z.heap "java/lang/StringUTF16" "HI_BYTE_SHIFT" "I" (.int 0)) (Ol : Sta Z Z.heap "java/lang/StringUTF16" "LO_BYTE_SHIFT" "I" (.int 8)) (zc : Int32) (O2 : Sta Z Z.heap "java/lang/String" "COMPACT_STRINGS" "Z" (.int zc)) (P5 : ¬ zc = 0) (h0 : Heap) (n0 : Nat) (ho : Old Z n0 h0) (E : Exa Z h0 x "java/lang/String") (Vx : Fld Z h0 x "java/lang/String" "value" "[B" .null) (Cx : Fld Z h0 x "java/lang/String" "coder" "B" (.int 0)) (gx : n0 ≤ x) (B : Arv Z h0 b kC .char (Int32.ofNat n) (cs.map Value.int) dd) (hcs : cs.length = n) (hn : n ≤ 36) (hj : j < n) (hpre : ∀ i, i < j → ¬ (255 : Int32) < cs.getD i 0) (hw8 : (255 : Int32) < cs.getD j 0) (hbd : ∀ c ∈ cs, ¬ c < 0 ∧ ¬ (65535 : Int32) < c) :
    CN l (⟨"java/lang/String", "<init>", "([CIILjava/lang/Void;)V"⟩ : MethodName) jdk_42_method_149_code 6 none [] ({ frames := 4, cells := 2, slots := 108, locals := 80 } : Room) Z n0 h0 #[(.ref x), (.ref b), (.int (0 : Int32)), (.int (Int32.ofNat n)), .null] [x] (fun v h => v = none ∧ ∃ t : Addr, n0 ≤ t ∧ h0.size ≤ t ∧ ¬ t = x ∧ Str Z h x t cs) := by
  refine CN.walk (plainFor_of_name pn0) ho (L0 := #[.val (.ref x), .val (.ref b), .val (.int (0 : Int32)), .val (.int (Int32.ofNat n)), .val .null, .unset]) (fun m => rfl) ?_
  intro pG e s m below meth cO T hlk hret hnm A0
  have K0 : Keep h0 h0 [x] := Keep.refl _ _
  refine f_aloadN A0 d13_0 (pc' := 1) rfl rfl rfl ?_
  refine f_initO A0 (W := 0) d13_1 (pc' := 4) rfl (wd hw 68 rfl) (wd hw 69 rfl) (wd hw 70 rfl) rfl (by decide) (Nat.le_of_eq rfl) (by decide) fun T53 A53 => ?_
  refine f_iloadN A53 d13_4 (pc' := 5) rfl rfl ?_
  refine f_ifY A53 d13_5 ((if0 _ _).trans (feq (fun q => by have q2 := congrArg Int32.toInt q; rw [ofn (by omega)] at q2; have e : (0 : Int32).toInt = 0 := rfl; omega)).2) (pc' := 27) (by decide) (by decide) ?_
  refine f_getS A53 d13_27 (pc' := 30) rfl (host := "") (Or.inl (wd hw 29 rfl)) Via.refl O2 fun T54 A54 => ?_
  refine f_ifN A54 d13_30 ((if0 _ _).trans (feq P5).1) (pc' := 33) rfl ?_
  refine f_aloadN A54 d13_33 (pc' := 34) rfl rfl rfl ?_
  refine f_iloadN A54 d13_34 (pc' := 35) rfl rfl ?_
  refine f_iloadN A54 d13_35 (pc' := 36) rfl rfl ?_
  refine f_callS A54 d13_36 (pc' := 39) rfl (wd hw 71 rfl) (wd hw 72 rfl) (wd hw 73 rfl) (wd hw 74 rfl) (by decide) pd5 [(.ref b), (.int (0 : Int32)), (.int (Int32.ofNat n))] [] rfl rfl rfl 0 (Nat.le_of_eq rfl) (CN.pay (W := 0) A54 (m_cmp3W l Z a0 hw b kC n cs dd j Oa Oh Ol h0 n0 A54.old B hcs hn hj hpre hw8 hbd) (wd hw 74 rfl) (wd hw 73 rfl) (by decide) (by decide)) (kc := 2) (ks := 108) (by decide) (by decide) all0 (fun q => nomatch q) fun v55 T55 h55 L55 A55 K55 q55 => ?_
  have Q56 : Keep h0 h55 [x] := K0.trans K55 all0
  obtain ⟨t, kt, rfl, tg, V55⟩ := q55
  show Wp pG e below _ T55 (mkF m 39 _ [(.ref t)])
  refine f_astore A55 d13_39 (pc' := 41) rfl rfl (L' := #[.val (.ref x), .val (.ref b), .val (.int (0 : Int32)), .val (.int (Int32.ofNat n)), .val .null, .val (.ref t)]) rfl ?_
  refine f_aloadN A55 d13_41 (pc' := 42) rfl rfl rfl ?_
  refine f_aload A55 d13_42 (pc' := 44) rfl rfl rfl ?_
  refine f_iloadN A55 d13_44 (pc' := 45) rfl rfl ?_
  refine f_callS A55 d13_45 (pc' := 48) rfl (wd hw 78 rfl) (wd hw 79 rfl) (wd hw 73 rfl) (wd hw 80 rfl) (by decide) pd7 [(.ref t), (.int (Int32.ofNat n))] [(.ref x)] rfl rfl rfl 1 (Nat.le_of_eq rfl) (CN.pay (W := 1) A55 (m_codW l Z a0 hw t kt n _ h55 n0 A55.old V55 (by omega) hn) (wd hw 80 rfl) (wd hw 73 rfl) (by decide) (by decide)) (kc := 0) (ks := 0) (by decide) (by decide) all0 (fun q => nomatch q) fun v57 T57 h57 L57 A57 K57 q57 => ?_
  obtain ⟨rfl, hh57⟩ := q57
  obtain rfl := hh57.symm
  show Wp pG e below _ T57 (mkF m 48 _ [(.int (1 : Int32)), (.ref x)])
  have c59 := (Cx.keep K55 nin0)
  have c60 := (E.keep K55)
  refine f_putF A57 (.int (1 : Int32)) d13_48 (pc' := 51) rfl (wd hw 30 rfl) Via.refl c59 c60 (Or.inr ⟨(wd hw 9 rfl), rfl, hnm⟩) (wd hw 6 rfl) (ty := .byte) (by decide) rfl (by decide) gx (fun q => nomatch q) fun T58 h58 A58 W58 K58 X58 F58 => ?_
  have c61 := (Vx.keep K55 nin0)
  have Q62 : Keep h0 h58 [x] := Q56.trans K58 (allS (Or.inl (List.mem_of_getElem? (i := 0) rfl)) all0)
  refine f_aloadN A58 d13_51 (pc' := 52) rfl rfl rfl ?_
  refine f_aload A58 d13_52 (pc' := 54) rfl rfl rfl ?_
  refine f_putF A58 (.ref t) d13_54 (pc' := 57) rfl (wd hw 23 rfl) Via.refl (c61.other W58 (Or.inr (slot_ne (Or.inr (wd hw 8 rfl)) (Or.inr (wd hw 9 rfl)) (by decide) (t := (.array .byte)) (t' := .byte) (by decide) (by decide)))) X58 (Or.inr ⟨(wd hw 8 rfl), rfl, hnm⟩) (wd hw 6 rfl) (ty := (.array .byte)) (by decide) rfl rfl gx (fun q => nomatch q) fun T63 h63 A63 W63 K63 X63 F63 => ?_
  have Q64 : Keep h0 h63 [x] := Q62.trans K63 (allS (Or.inl (List.mem_of_getElem? (i := 0) rfl)) all0)
  have c65 := ((V55.keep K58 (ninS (Ne.symm (Nat.ne_of_lt (Nat.lt_of_lt_of_le E.lt tg))) nin0)).keep K63 (ninS (Ne.symm (Nat.ne_of_lt (Nat.lt_of_lt_of_le E.lt tg))) nin0))
  have G : Str Z h63 x t cs := ⟨X63, ⟨1, _, _, kt, F63, (F58.other W63 (Or.inr (slot_ne (Or.inr (wd hw 9 rfl)) (Or.inr (wd hw 8 rfl)) (by decide) (t := .byte) (t' := (.array .byte)) (by decide) (by decide)))), c65, Or.inr ⟨rfl, by rw [hcs], rfl, cs.getD j 0, by simp [List.getD_eq_getElem?_getD, show j < cs.length by omega], hw8⟩⟩, hbd, by omega⟩
  exact f_retN A63 hlk hret d13_57 (by decide) (by decide) Q64 ⟨rfl, t, (Nat.le_trans A54.sz tg), (Nat.le_trans K0.1 tg), (Ne.symm (Nat.ne_of_lt (Nat.lt_of_lt_of_le E.lt tg))), G⟩
set_option maxRecDepth 65536 in
set_option maxHeartbeats 40000000 in
theorem m_new1W (l : Launch) (Z : State) (a0 : Array Value) (hw : ∀ d ∈ tables_1, d.before a0 Z = true) (x : Addr) (b : Addr) (kC : ClassId) (n : Nat) (cs : List Int32) (dd : Value) (j : Nat) (Oa : Sta Z Z.heap "java/lang/StringUTF16" "$assertionsDisabled" "Z" (.int 1)) (Oh : Sta Z Z.heap "java/lang/StringUTF16" "HI_BYTE_SHIFT" "I" (.int 0)) (Ol : Sta Z Z.heap "java/lang/StringUTF16" "LO_BYTE_SHIFT" "I" (.int 8)) (zc : Int32) (O2 : Sta Z Z.heap "java/lang/String" "COMPACT_STRINGS" "Z" (.int zc)) (P5 : ¬ zc = 0) (h0 : Heap) (n0 : Nat) (ho : Old Z n0 h0) (E : Exa Z h0 x "java/lang/String") (Vx : Fld Z h0 x "java/lang/String" "value" "[B" .null) (Cx : Fld Z h0 x "java/lang/String" "coder" "B" (.int 0)) (gx : n0 ≤ x) (B : Arv Z h0 b kC .char (Int32.ofNat n) (cs.map Value.int) dd) (hcs : cs.length = n) (hn : n ≤ 36) (hj : j < n) (hpre : ∀ i, i < j → ¬ (255 : Int32) < cs.getD i 0) (hw8 : (255 : Int32) < cs.getD j 0) (hbd : ∀ c ∈ cs, ¬ c < 0 ∧ ¬ (65535 : Int32) < c) :
    CN l (⟨"java/lang/String", "<init>", "([C)V"⟩ : MethodName) jdk_42_method_3_code 2 none [] ({ frames := 5, cells := 2, slots := 108, locals := 100 } : Room) Z n0 h0 #[(.ref x), (.ref b)] [x] (fun v h => v = none ∧ ∃ t : Addr, n0 ≤ t ∧ h0.size ≤ t ∧ ¬ t = x ∧ Str Z h x t cs) := by
  refine CN.walk (plainFor_of_name pn0) ho (L0 := #[.val (.ref x), .val (.ref b)]) (fun m => rfl) ?_
  intro pG e s m below meth cO T hlk hret hnm A0
  have K0 : Keep h0 h0 [x] := Keep.refl _ _
  refine f_aloadN A0 d12_0 (pc' := 1) rfl rfl rfl ?_
  refine f_aloadN A0 d12_1 (pc' := 2) rfl rfl rfl ?_
  refine f_iconst A0 d12_2 (pc' := 3) rfl 0 rfl ?_
  refine f_aloadN A0 d12_3 (pc' := 4) rfl rfl rfl ?_
  refine f_arraylength A0 d12_4 (pc' := 5) rfl B ?_
  refine f_aconst_null A0 d12_5 (pc' := 6) rfl ?_
  refine f_callI A0 (a := x) d12_6 (pc' := 9) rfl rfl (wd hw 64 rfl) (wd hw 65 rfl) (wd hw 67 rfl) (by decide) pd0 [(.ref b), (.int (0 : Int32)), (.int (Int32.ofNat n)), .null] [] rfl rfl rfl 0 (Nat.le_of_eq rfl) (CN.pay (W := 0) A0 (m_new4W l Z a0 hw x b kC n cs dd j Oa Oh Ol zc O2 P5 h0 n0 A0.old E Vx Cx gx B hcs hn hj hpre hw8 hbd) (wd hw 67 rfl) (wd hw 5 rfl) (by decide) (by decide)) (kc := 2) (ks := 108) (by decide) (by decide) (allS gx all0) (fun q => nomatch q) fun v66 T66 h66 L66 A66 K66 q66 => ?_
  have Q67 : Keep h0 h66 [x] := K0.trans K66 (allS (Or.inl (List.mem_of_getElem? (i := 0) rfl)) all0)
  obtain ⟨rfl, t, tz, tg, tn, G⟩ := q66
  show Wp pG e below _ T66 (mkF m 9 _ [])
  exact f_retN A66 hlk hret d12_9 (by decide) (by decide) Q67 ⟨rfl, t, tz, tg, tn, G⟩
def vOf (aA aD aM aL : Addr) (cs : List Int32) : Value := if [(97 : Int32), (108 : Int32), (108 : Int32), (111 : Int32), (119 : Int32)] = cs then .ref aA else if [(100 : Int32), (101 : Int32), (110 : Int32), (121 : Int32)] = cs then .ref aD else if [(109 : Int32), (111 : Int32), (99 : Int32), (107 : Int32)] = cs then .ref aM else if [(108 : Int32), (111 : Int32), (103 : Int32)] = cs then .ref aL else .null
theorem vOf_ref (aA aD aM aL : Addr) (cs : List Int32) : (vOf aA aD aM aL cs).isRef = true := by unfold vOf; split <;> (try split) <;> (try split) <;> (try split) <;> rfl
def Verd (Z : State) (aA aD aM aL vv : Addr) : Prop := ∃ (kA kD kM kL tA tD tM tL : Addr) (kV : ClassId), Sta Z Z.heap "com/example/confinement/confinement/policy/Verdict" "ALLOW" "Lcom/example/confinement/confinement/policy/Verdict;" (.ref aA) ∧ Exa Z Z.heap aA "com/example/confinement/confinement/policy/Verdict" ∧ Fld Z Z.heap aA "com/example/confinement/confinement/policy/Verdict" "keyword" "Ljava/lang/String;" (.ref kA) ∧ Str Z Z.heap kA tA [(97 : Int32), (108 : Int32), (108 : Int32), (111 : Int32), (119 : Int32)] ∧ Sta Z Z.heap "com/example/confinement/confinement/policy/Verdict" "DENY" "Lcom/example/confinement/confinement/policy/Verdict;" (.ref aD) ∧ Exa Z Z.heap aD "com/example/confinement/confinement/policy/Verdict" ∧ Fld Z Z.heap aD "com/example/confinement/confinement/policy/Verdict" "keyword" "Ljava/lang/String;" (.ref kD) ∧ Str Z Z.heap kD tD [(100 : Int32), (101 : Int32), (110 : Int32), (121 : Int32)] ∧ Sta Z Z.heap "com/example/confinement/confinement/policy/Verdict" "MOCK" "Lcom/example/confinement/confinement/policy/Verdict;" (.ref aM) ∧ Exa Z Z.heap aM "com/example/confinement/confinement/policy/Verdict" ∧ Fld Z Z.heap aM "com/example/confinement/confinement/policy/Verdict" "keyword" "Ljava/lang/String;" (.ref kM) ∧ Str Z Z.heap kM tM [(109 : Int32), (111 : Int32), (99 : Int32), (107 : Int32)] ∧ Sta Z Z.heap "com/example/confinement/confinement/policy/Verdict" "LOG" "Lcom/example/confinement/confinement/policy/Verdict;" (.ref aL) ∧ Exa Z Z.heap aL "com/example/confinement/confinement/policy/Verdict" ∧ Fld Z Z.heap aL "com/example/confinement/confinement/policy/Verdict" "keyword" "Ljava/lang/String;" (.ref kL) ∧ Str Z Z.heap kL tL [(108 : Int32), (111 : Int32), (103 : Int32)] ∧ Sta Z Z.heap "com/example/confinement/confinement/policy/Verdict" "$VALUES" "[Lcom/example/confinement/confinement/policy/Verdict;" (.ref vv) ∧ Exa Z Z.heap vv "[Lcom/example/confinement/confinement/policy/Verdict;" ∧ Arv Z Z.heap vv kV (.object "com/example/confinement/confinement/policy/Verdict") 4 [.ref aA, .ref aD, .ref aM, .ref aL] .null
theorem lat_set {Q : Int32 → Prop} {L : List Int32} {P : Nat} {c : Int32} (h : ∀ x ∈ L, Q x) (hc : Q c) : ∀ x ∈ L.set P c, Q x := fun x hx => by
  rcases List.mem_or_eq_of_mem_set hx with q | q
  · exact h x q
  · exact q ▸ hc
theorem getD_set_ne {L : List Int32} {P i : Nat} {c : Int32} (h : i < P) : (L.set P c).getD i 0 = L.getD i 0 := by simp only [List.getD_eq_getElem?_getD]; rw [List.getElem?_set_ne (by omega)]
theorem getD_set_eq {L : List Int32} {P : Nat} {c : Int32} (h : P < L.length) : (L.set P c).getD P 0 = c := by simp [List.getD_eq_getElem?_getD, h]
theorem set_self {L : List Int32} {P : Nat} (h : P < L.length) : L.set P (L.getD P 0) = L := by simp [List.getD_eq_getElem?_getD, h]
theorem c16 {c : Int32} (h : 0 ≤ c.toInt ∧ c.toInt ≤ 65535) : ¬ c < 0 ∧ ¬ (65535 : Int32) < c := by rw [lt_i, lt_i]; have e1 : (65535 : Int32).toInt = 65535 := rfl; have e2 : (0 : Int32).toInt = 0 := rfl; omega
theorem c8 {c : Int32} (h : 0 ≤ c.toInt ∧ c.toInt ≤ 65535) (q : ¬ (255 : Int32) < c) : ¬ c < 0 ∧ ¬ (255 : Int32) < c := ⟨(c16 h).1, q⟩
theorem rem_pos (x : Int32) (m : Int32) (M : Nat) (hm : m.toInt = M) (h0 : 0 < M) : ∃ P : Nat, (x &&& 2147483647) % m = Int32.ofNat P ∧ P < M := by
  have a := (c_and x 2147483647 (by decide)).1; have b := (c_irem (x &&& 2147483647) m M hm).1 a
  have c : 0 ≤ ((x &&& 2147483647) % m).toInt ∧ ((x &&& 2147483647) % m).toInt < M := by rw [b]; exact ⟨Int.emod_nonneg _ (by omega), Int.emod_lt_of_pos _ (by omega)⟩
  have r := rng32 ((x &&& 2147483647) % m)
  refine ⟨((x &&& 2147483647) % m).toInt.toNat, Int32.toInt_inj.mp ?_, by omega⟩
  rw [ofn (by omega)]; omega
theorem set_no0 {aA aD aM aL : Addr} {P : Nat} {c : Int32} (hP : P < 5) (hc : ¬ c = ([(97 : Int32), (108 : Int32), (108 : Int32), (111 : Int32), (119 : Int32)] : List Int32).getD P 0) : vOf aA aD aM aL (([(97 : Int32), (108 : Int32), (108 : Int32), (111 : Int32), (119 : Int32)] : List Int32).set P c) = .null := by
  have hc' : ¬ ([(97 : Int32), (108 : Int32), (108 : Int32), (111 : Int32), (119 : Int32)] : List Int32).getD P 0 = c := fun q => hc q.symm
  have : P = 0 ∨ P = 1 ∨ P = 2 ∨ P = 3 ∨ P = 4 := by omega
  rcases this with rfl | rfl | rfl | rfl | rfl <;> (simp only [List.getD_cons_zero, List.getD_cons_succ] at hc'; simp +decide [vOf, hc'])
theorem app_no0 {aA aD aM aL : Addr} {c : Int32} : vOf aA aD aM aL [(97 : Int32), (108 : Int32), (108 : Int32), (111 : Int32), (119 : Int32), c] = .null := by simp +decide [vOf]
theorem set_no1 {aA aD aM aL : Addr} {P : Nat} {c : Int32} (hP : P < 4) (hc : ¬ c = ([(100 : Int32), (101 : Int32), (110 : Int32), (121 : Int32)] : List Int32).getD P 0) : vOf aA aD aM aL (([(100 : Int32), (101 : Int32), (110 : Int32), (121 : Int32)] : List Int32).set P c) = .null := by
  have hc' : ¬ ([(100 : Int32), (101 : Int32), (110 : Int32), (121 : Int32)] : List Int32).getD P 0 = c := fun q => hc q.symm
  have : P = 0 ∨ P = 1 ∨ P = 2 ∨ P = 3 := by omega
  rcases this with rfl | rfl | rfl | rfl <;> (simp only [List.getD_cons_zero, List.getD_cons_succ] at hc'; simp +decide [vOf, hc'])
theorem app_no1 {aA aD aM aL : Addr} {c : Int32} : vOf aA aD aM aL [(100 : Int32), (101 : Int32), (110 : Int32), (121 : Int32), c] = .null := by simp +decide [vOf]
theorem set_no2 {aA aD aM aL : Addr} {P : Nat} {c : Int32} (hP : P < 4) (hc : ¬ c = ([(109 : Int32), (111 : Int32), (99 : Int32), (107 : Int32)] : List Int32).getD P 0) : vOf aA aD aM aL (([(109 : Int32), (111 : Int32), (99 : Int32), (107 : Int32)] : List Int32).set P c) = .null := by
  have hc' : ¬ ([(109 : Int32), (111 : Int32), (99 : Int32), (107 : Int32)] : List Int32).getD P 0 = c := fun q => hc q.symm
  have : P = 0 ∨ P = 1 ∨ P = 2 ∨ P = 3 := by omega
  rcases this with rfl | rfl | rfl | rfl <;> (simp only [List.getD_cons_zero, List.getD_cons_succ] at hc'; simp +decide [vOf, hc'])
theorem app_no2 {aA aD aM aL : Addr} {c : Int32} : vOf aA aD aM aL [(109 : Int32), (111 : Int32), (99 : Int32), (107 : Int32), c] = .null := by simp +decide [vOf]
theorem set_no3 {aA aD aM aL : Addr} {P : Nat} {c : Int32} (hP : P < 3) (hc : ¬ c = ([(108 : Int32), (111 : Int32), (103 : Int32)] : List Int32).getD P 0) : vOf aA aD aM aL (([(108 : Int32), (111 : Int32), (103 : Int32)] : List Int32).set P c) = .null := by
  have hc' : ¬ ([(108 : Int32), (111 : Int32), (103 : Int32)] : List Int32).getD P 0 = c := fun q => hc q.symm
  have : P = 0 ∨ P = 1 ∨ P = 2 := by omega
  rcases this with rfl | rfl | rfl <;> (simp only [List.getD_cons_zero, List.getD_cons_succ] at hc'; simp +decide [vOf, hc'])
theorem app_no3 {aA aD aM aL : Addr} {c : Int32} : vOf aA aD aM aL [(108 : Int32), (111 : Int32), (103 : Int32), c] = .null := by simp +decide [vOf]
theorem hpreK {L : List Int32} {c : Int32} (hL : ∀ x ∈ L, ¬ (255 : Int32) < x) : ∀ i, i < L.length → ¬ (255 : Int32) < (L ++ [c]).getD i 0 := fun i hi => by
  have e : (L ++ [c]).getD i 0 = L[i] := by simp [List.getD_eq_getElem?_getD, List.getElem?_append_left hi, hi]
  rw [e]; exact hL _ (List.getElem_mem hi)
theorem pn2 : plainName "com/example/confinement/confinement/policy/Verdict" = true := by first | (simp [plainName, overriddenIn]; done) | decide +kernel
theorem d19_0 : decode prog_19_method_1_code 0 = .ok (.getstatic 16, 3) := by decide +kernel
theorem d19_3 : decode prog_19_method_1_code 3 = .ok (.invokevirtual 20, 3) := by decide +kernel
theorem d19_6 : decode prog_19_method_1_code 6 = .ok (.checkcast 21, 3) := by decide +kernel
theorem d19_9 : decode prog_19_method_1_code 9 = .ok (.areturn, 1) := by decide +kernel
set_option maxRecDepth 65536 in
set_option maxHeartbeats 40000000 in
theorem m_vals (l : Launch) (Z : State) (a0 : Array Value) (hw : ∀ d ∈ tables_1, d.before a0 Z = true) (aA aD aM aL vv : Addr) (h0 : Heap) (n0 : Nat) (ho : Old Z n0 h0) (hV : Verd Z aA aD aM aL vv) :
    CN l (⟨"com/example/confinement/confinement/policy/Verdict", "values", "()[Lcom/example/confinement/confinement/policy/Verdict;"⟩ : MethodName) prog_19_method_1_code 0 (some (.array (.object "com/example/confinement/confinement/policy/Verdict"))) [] ({ frames := 1, cells := 1, slots := 4, locals := 14 } : Room) Z n0 h0 #[] [] (fun v h => ∃ (a : Addr) (kV : ClassId), v = some (.ref a) ∧ h0.size ≤ a ∧ Arv Z h a kV (.object "com/example/confinement/confinement/policy/Verdict") 4 [.ref aA, .ref aD, .ref aM, .ref aL] .null) := by
  refine CN.walk (plainFor_of_name pn2) ho (L0 := #[]) (fun m => rfl) ?_
  intro pG e s m below meth cO T hlk hret hnm A0
  have K0 : Keep h0 h0 [] := Keep.refl _ _
  obtain ⟨kA, kD, kM, kL, tA, tD, tM, tL, kV, S0, E0, F0, G0, S1, E1, F1, G1, S2, E2, F2, G2, S3, E3, F3, G3, SV, EV, VV⟩ := id hV
  refine f_getS A0 d19_0 (pc' := 3) rfl (host := "") (Or.inl (wd hw 87 rfl)) Via.refl SV fun T68 A68 => ?_
  refine f_clone A68 0 4 d19_3 (pc' := 6) rfl (wd hw 89 rfl) (wd hw 90 rfl) (wd hw 94 rfl) (wd hw 92 rfl) (wd hw 93 rfl) (wd hw 95 rfl) (VV.ext A68.old.2) (EV.ext A68.old.2) rfl (by decide) (Nat.le_of_eq rfl) (by decide) (by decide) (by decide) (by decide) fun a69 T69 h69 g69 A69 E69 V69 X69 => ?_
  have z69 : n0 ≤ a69 := Nat.le_trans A68.sz (Nat.le_of_eq g69.symm)
  have y69 : h0.size ≤ a69 := Nat.le_trans K0.1 (Nat.le_of_eq g69.symm)
  have Q70 : Keep h0 h69 [] := K0.ext E69
  refine f_cast A69 d19_6 (pc' := 9) rfl (wd hw 100 rfl) (Ins.self X69) fun T71 A71 => ?_
  exact f_retRN A71 hlk hret d19_9 rfl rfl (by decide) (by decide) Q70 ⟨a69, kV, rfl, y69, V69⟩
theorem d20_0 : decode jdk_42_method_66_code 0 = .ok (.aload_n 0, 1) := by decide +kernel
theorem d20_1 : decode jdk_42_method_66_code 1 = .ok (.aload_n 1, 1) := by decide +kernel
theorem d20_2 : decode jdk_42_method_66_code 2 = .ok (.if_acmp .ne 5, 3) := by decide +kernel
theorem d20_7 : decode jdk_42_method_66_code 7 = .ok (.aload_n 1, 1) := by decide +kernel
theorem d20_8 : decode jdk_42_method_66_code 8 = .ok (.instanceof 10, 3) := by decide +kernel
theorem d20_11 : decode jdk_42_method_66_code 11 = .ok (.ifCond .eq 43, 3) := by decide +kernel
theorem d20_54 : decode jdk_42_method_66_code 54 = .ok (.iconst 0, 1) := by decide +kernel
theorem d20_55 : decode jdk_42_method_66_code 55 = .ok (.ireturn, 1) := by decide +kernel
set_option maxRecDepth 65536 in
set_option maxHeartbeats 40000000 in
theorem m_eqNull (l : Launch) (Z : State) (a0 : Array Value) (hw : ∀ d ∈ tables_1, d.before a0 Z = true) (a : Addr) (h0 : Heap) (n0 : Nat) (ho : Old Z n0 h0)  :
    CN l (⟨"java/lang/String", "equals", "(Ljava/lang/Object;)Z"⟩ : MethodName) jdk_42_method_66_code 3 (some .boolean) [] ({ frames := 0, cells := 0, slots := 0, locals := 0 } : Room) Z n0 h0 #[(.ref a), .null] [] (fun v h => v = some (.int 0) ∧ h = h0) := by
  refine CN.walk (plainFor_of_name pn0) ho (L0 := #[.val (.ref a), .val .null, .unset]) (fun m => rfl) ?_
  intro pG e s m below meth cO T hlk hret hnm A0
  have K0 : Keep h0 h0 [] := Keep.refl _ _
  refine f_aloadN A0 d20_0 (pc' := 1) rfl rfl rfl ?_
  refine f_aloadN A0 d20_1 (pc' := 2) rfl rfl rfl ?_
  refine f_acmp A0 rfl rfl d20_2 false (decide_eq_false nofun) (by decide) (pc' := 7) (by decide) ?_
  refine f_aloadN A0 d20_7 (pc' := 8) rfl rfl rfl ?_
  refine f_instNull A0 d20_8 (pc' := 11) rfl ?_
  refine f_ifY A0 d20_11 ((if0 _ _).trans (teq (by decide : (0 : Int32) = (0 : Int32))).1) (pc' := 54) (by decide) (by decide) ?_
  refine f_iconst A0 d20_54 (pc' := 55) rfl 0 rfl ?_
  exact f_retBN A0 hlk hret d20_55 (by decide) (0 : Int32) (by decide) (by decide) (by decide) K0 ⟨rfl, rfl⟩
theorem d18_0 : decode prog_19_method_5_code 0 = .ok (.aconst_null, 1) := by decide +kernel
theorem d18_1 : decode prog_19_method_5_code 1 = .ok (.astore_n 1, 1) := by decide +kernel
theorem d18_2 : decode prog_19_method_5_code 2 = .ok (.invokestatic 39, 3) := by decide +kernel
theorem pd8 : parseMethodDescriptor "()[Lcom/example/confinement/confinement/policy/Verdict;" = some ⟨[], some (.array (.object "com/example/confinement/confinement/policy/Verdict"))⟩ := by decide +kernel
theorem d18_5 : decode prog_19_method_5_code 5 = .ok (.astore_n 2, 1) := by decide +kernel
theorem d18_6 : decode prog_19_method_5_code 6 = .ok (.aload_n 2, 1) := by decide +kernel
theorem d18_7 : decode prog_19_method_5_code 7 = .ok (.arraylength, 1) := by decide +kernel
theorem d18_8 : decode prog_19_method_5_code 8 = .ok (.istore_n 3, 1) := by decide +kernel
theorem d18_9 : decode prog_19_method_5_code 9 = .ok (.iconst 0, 1) := by decide +kernel
theorem d18_10 : decode prog_19_method_5_code 10 = .ok (.istore 4, 2) := by decide +kernel
theorem d18_12 : decode prog_19_method_5_code 12 = .ok (.iload 4, 2) := by decide +kernel
theorem d18_14 : decode prog_19_method_5_code 14 = .ok (.iload_n 3, 1) := by decide +kernel
theorem d18_15 : decode prog_19_method_5_code 15 = .ok (.if_icmp .ge 33, 3) := by decide +kernel
theorem d18_18 : decode prog_19_method_5_code 18 = .ok (.aload_n 2, 1) := by decide +kernel
theorem d18_19 : decode prog_19_method_5_code 19 = .ok (.iload 4, 2) := by decide +kernel
theorem d18_21 : decode prog_19_method_5_code 21 = .ok (.aaload, 1) := by decide +kernel
theorem d18_22 : decode prog_19_method_5_code 22 = .ok (.astore 5, 2) := by decide +kernel
theorem d18_24 : decode prog_19_method_5_code 24 = .ok (.aload 5, 2) := by decide +kernel
theorem d18_26 : decode prog_19_method_5_code 26 = .ok (.getfield 35, 3) := by decide +kernel
theorem d18_29 : decode prog_19_method_5_code 29 = .ok (.aload_n 0, 1) := by decide +kernel
theorem d18_30 : decode prog_19_method_5_code 30 = .ok (.invokevirtual 43, 3) := by decide +kernel
theorem pd9 : parseMethodDescriptor "(Ljava/lang/Object;)Z" = some ⟨[(.object "java/lang/Object")], some .boolean⟩ := by decide +kernel
theorem d18_33 : decode prog_19_method_5_code 33 = .ok (.ifCond .eq 9, 3) := by decide +kernel
theorem d18_42 : decode prog_19_method_5_code 42 = .ok (.iinc 4 1, 3) := by decide +kernel
theorem d18_45 : decode prog_19_method_5_code 45 = .ok (.goto (-33), 3) := by decide +kernel
theorem d18_48 : decode prog_19_method_5_code 48 = .ok (.aload_n 1, 1) := by decide +kernel
theorem d18_49 : decode prog_19_method_5_code 49 = .ok (.areturn, 1) := by decide +kernel
set_option maxRecDepth 65536 in
set_option maxHeartbeats 40000000 in
theorem m_fkN (l : Launch) (Z : State) (a0 : Array Value) (hw : ∀ d ∈ tables_1, d.before a0 Z = true) (aA aD aM aL vv : Addr) (h0 : Heap) (n0 : Nat) (ho : Old Z n0 h0) (hV : Verd Z aA aD aM aL vv) :
    CN l (⟨"com/example/confinement/confinement/policy/Verdict", "forKeyword", "(Ljava/lang/String;)Lcom/example/confinement/confinement/policy/Verdict;"⟩ : MethodName) prog_19_method_5_code 6 (some (.object "com/example/confinement/confinement/policy/Verdict")) [] ({ frames := 3, cells := 1, slots := 4, locals := 60 } : Room) Z n0 h0 #[.null] [] (fun v h => v = some .null) := by
  refine CN.walk (plainFor_of_name pn2) ho (L0 := #[.val .null, .unset, .unset, .unset, .unset, .unset]) (fun m => rfl) ?_
  intro pG e s m below meth cO T hlk hret hnm A0
  have K0 : Keep h0 h0 [] := Keep.refl _ _
  obtain ⟨kA, kD, kM, kL, tA, tD, tM, tL, kV, S0, E0, F0, G0, S1, E1, F1, G1, S2, E2, F2, G2, S3, E3, F3, G3, SV, EV, VV⟩ := id hV
  refine f_aconst_null A0 d18_0 (pc' := 1) rfl ?_
  refine f_astoreN A0 d18_1 (pc' := 2) rfl rfl (L' := #[.val .null, .val .null, .unset, .unset, .unset, .unset]) rfl ?_
  refine f_callS A0 d18_2 (pc' := 5) rfl (wd hw 84 rfl) (wd hw 85 rfl) (wd hw 16 rfl) (wd hw 86 rfl) (by decide) pd8 [] [] rfl rfl rfl 0 (Nat.le_of_eq rfl) (CN.pay (W := 0) A0 (m_vals l Z a0 hw aA aD aM aL vv h0 n0 A0.old hV) (wd hw 86 rfl) (wd hw 16 rfl) (by decide) (by decide)) (kc := 1) (ks := 4) (by decide) (by decide) all0 (fun q => nomatch q) fun v72 T72 h72 L72 A72 K72 q72 => ?_
  have Q73 : Keep h0 h72 [] := K0.trans K72 all0
  obtain ⟨b72, kv72, rfl, bg72, V72⟩ := q72
  show Wp pG e below _ T72 (mkF m 5 _ [(.ref b72)])
  refine f_astoreN A72 d18_5 (pc' := 6) rfl rfl (L' := #[.val .null, .val .null, .val (.ref b72), .unset, .unset, .unset]) rfl ?_
  refine f_aloadN A72 d18_6 (pc' := 7) rfl rfl rfl ?_
  refine f_arraylength A72 d18_7 (pc' := 8) rfl V72 ?_
  refine f_istoreN A72 d18_8 (pc' := 9) rfl (L' := #[.val .null, .val .null, .val (.ref b72), .val (.int (4 : Int32)), .unset, .unset]) rfl ?_
  refine f_iconst A72 d18_9 (pc' := 10) rfl 0 rfl ?_
  refine f_istore A72 d18_10 (pc' := 12) rfl (L' := #[.val .null, .val .null, .val (.ref b72), .val (.int (4 : Int32)), .val (.int (0 : Int32)), .unset]) rfl ?_
  refine f_iload A72 d18_12 (pc' := 14) rfl rfl ?_
  refine f_iloadN A72 d18_14 (pc' := 15) rfl rfl ?_
  refine f_icN A72 d18_15 (tlt (by decide : (0 : Int32) < (4 : Int32))).2.1 (pc' := 18) rfl ?_
  refine f_aloadN A72 d18_18 (pc' := 19) rfl rfl rfl ?_
  refine f_iload A72 d18_19 (pc' := 21) rfl rfl ?_
  refine f_aaload A72 d18_21 (pc' := 22) rfl V72 rfl ⟨by decide, by decide⟩ (v := (.ref aA)) rfl ?_
  refine f_astore A72 d18_22 (pc' := 24) rfl rfl (L' := #[.val .null, .val .null, .val (.ref b72), .val (.int (4 : Int32)), .val (.int (0 : Int32)), .val (.ref aA)]) rfl ?_
  refine f_aload A72 d18_24 (pc' := 26) rfl rfl rfl ?_
  refine f_getF A72 d18_26 (pc' := 29) rfl (host := "") (Or.inl (wd hw 102 rfl)) Via.refl (F0.ext A72.old.2) fun T74 A74 => ?_
  refine f_aloadN A74 d18_29 (pc' := 30) rfl rfl rfl ?_
  refine f_callV A74 (a := kA) d18_30 (pc' := 33) rfl (wd hw 104 rfl) (wd hw 105 rfl) (nfS A74 (wd hw 107 rfl)) (wd hw 107 rfl) (wd hw 106 rfl) (by decide) (G0.exa.ext A74.old.2) pd9 [.null] [] rfl rfl rfl 0 (Nat.le_of_eq rfl) (CN.pay (W := 0) A74 (m_eqNull l Z a0 hw kA h72 n0 A74.old) (wd hw 108 rfl) (wd hw 5 rfl) (by decide) (by decide)) (kc := 0) (ks := 0) (by decide) (by decide) all0 (fun q => nomatch q) fun v75 T75 h75 L75 A75 K75 q75 => ?_
  obtain ⟨rfl, hh75⟩ := q75
  obtain rfl := hh75.symm
  show Wp pG e below _ T75 (mkF m 33 _ [(.int (0 : Int32))])
  refine f_ifY A75 d18_33 ((if0 _ _).trans (teq (by decide : (0 : Int32) = (0 : Int32))).1) (pc' := 42) (by decide) (by decide) ?_
  refine f_iinc A75 d18_42 (pc' := 45) rfl rfl (1 : Int32) (by decide) (L' := #[.val .null, .val .null, .val (.ref b72), .val (.int (4 : Int32)), .val (.int (1 : Int32)), .val (.ref aA)]) rfl ?_
  refine f_goto A75 d18_45 (pc' := 12) (by decide) (by decide) ?_
  refine f_iload A75 d18_12 (pc' := 14) rfl rfl ?_
  refine f_iloadN A75 d18_14 (pc' := 15) rfl rfl ?_
  refine f_icN A75 d18_15 (tlt (by decide : (1 : Int32) < (4 : Int32))).2.1 (pc' := 18) rfl ?_
  refine f_aloadN A75 d18_18 (pc' := 19) rfl rfl rfl ?_
  refine f_iload A75 d18_19 (pc' := 21) rfl rfl ?_
  refine f_aaload A75 d18_21 (pc' := 22) rfl V72 rfl ⟨by decide, by decide⟩ (v := (.ref aD)) rfl ?_
  refine f_astore A75 d18_22 (pc' := 24) rfl rfl (L' := #[.val .null, .val .null, .val (.ref b72), .val (.int (4 : Int32)), .val (.int (1 : Int32)), .val (.ref aD)]) rfl ?_
  refine f_aload A75 d18_24 (pc' := 26) rfl rfl rfl ?_
  refine f_getF A75 d18_26 (pc' := 29) rfl (host := "") (Or.inl (wd hw 102 rfl)) Via.refl (F1.ext A75.old.2) fun T76 A76 => ?_
  refine f_aloadN A76 d18_29 (pc' := 30) rfl rfl rfl ?_
  refine f_callV A76 (a := kD) d18_30 (pc' := 33) rfl (wd hw 104 rfl) (wd hw 105 rfl) (nfS A76 (wd hw 107 rfl)) (wd hw 107 rfl) (wd hw 106 rfl) (by decide) (G1.exa.ext A76.old.2) pd9 [.null] [] rfl rfl rfl 0 (Nat.le_of_eq rfl) (CN.pay (W := 0) A76 (m_eqNull l Z a0 hw kD h72 n0 A76.old) (wd hw 108 rfl) (wd hw 5 rfl) (by decide) (by decide)) (kc := 0) (ks := 0) (by decide) (by decide) all0 (fun q => nomatch q) fun v77 T77 h77 L77 A77 K77 q77 => ?_
  obtain ⟨rfl, hh77⟩ := q77
  obtain rfl := hh77.symm
  show Wp pG e below _ T77 (mkF m 33 _ [(.int (0 : Int32))])
  refine f_ifY A77 d18_33 ((if0 _ _).trans (teq (by decide : (0 : Int32) = (0 : Int32))).1) (pc' := 42) (by decide) (by decide) ?_
  refine f_iinc A77 d18_42 (pc' := 45) rfl rfl (2 : Int32) (by decide) (L' := #[.val .null, .val .null, .val (.ref b72), .val (.int (4 : Int32)), .val (.int (2 : Int32)), .val (.ref aD)]) rfl ?_
  refine f_goto A77 d18_45 (pc' := 12) (by decide) (by decide) ?_
  refine f_iload A77 d18_12 (pc' := 14) rfl rfl ?_
  refine f_iloadN A77 d18_14 (pc' := 15) rfl rfl ?_
  refine f_icN A77 d18_15 (tlt (by decide : (2 : Int32) < (4 : Int32))).2.1 (pc' := 18) rfl ?_
  refine f_aloadN A77 d18_18 (pc' := 19) rfl rfl rfl ?_
  refine f_iload A77 d18_19 (pc' := 21) rfl rfl ?_
  refine f_aaload A77 d18_21 (pc' := 22) rfl V72 rfl ⟨by decide, by decide⟩ (v := (.ref aM)) rfl ?_
  refine f_astore A77 d18_22 (pc' := 24) rfl rfl (L' := #[.val .null, .val .null, .val (.ref b72), .val (.int (4 : Int32)), .val (.int (2 : Int32)), .val (.ref aM)]) rfl ?_
  refine f_aload A77 d18_24 (pc' := 26) rfl rfl rfl ?_
  refine f_getF A77 d18_26 (pc' := 29) rfl (host := "") (Or.inl (wd hw 102 rfl)) Via.refl (F2.ext A77.old.2) fun T78 A78 => ?_
  refine f_aloadN A78 d18_29 (pc' := 30) rfl rfl rfl ?_
  refine f_callV A78 (a := kM) d18_30 (pc' := 33) rfl (wd hw 104 rfl) (wd hw 105 rfl) (nfS A78 (wd hw 107 rfl)) (wd hw 107 rfl) (wd hw 106 rfl) (by decide) (G2.exa.ext A78.old.2) pd9 [.null] [] rfl rfl rfl 0 (Nat.le_of_eq rfl) (CN.pay (W := 0) A78 (m_eqNull l Z a0 hw kM h72 n0 A78.old) (wd hw 108 rfl) (wd hw 5 rfl) (by decide) (by decide)) (kc := 0) (ks := 0) (by decide) (by decide) all0 (fun q => nomatch q) fun v79 T79 h79 L79 A79 K79 q79 => ?_
  obtain ⟨rfl, hh79⟩ := q79
  obtain rfl := hh79.symm
  show Wp pG e below _ T79 (mkF m 33 _ [(.int (0 : Int32))])
  refine f_ifY A79 d18_33 ((if0 _ _).trans (teq (by decide : (0 : Int32) = (0 : Int32))).1) (pc' := 42) (by decide) (by decide) ?_
  refine f_iinc A79 d18_42 (pc' := 45) rfl rfl (3 : Int32) (by decide) (L' := #[.val .null, .val .null, .val (.ref b72), .val (.int (4 : Int32)), .val (.int (3 : Int32)), .val (.ref aM)]) rfl ?_
  refine f_goto A79 d18_45 (pc' := 12) (by decide) (by decide) ?_
  refine f_iload A79 d18_12 (pc' := 14) rfl rfl ?_
  refine f_iloadN A79 d18_14 (pc' := 15) rfl rfl ?_
  refine f_icN A79 d18_15 (tlt (by decide : (3 : Int32) < (4 : Int32))).2.1 (pc' := 18) rfl ?_
  refine f_aloadN A79 d18_18 (pc' := 19) rfl rfl rfl ?_
  refine f_iload A79 d18_19 (pc' := 21) rfl rfl ?_
  refine f_aaload A79 d18_21 (pc' := 22) rfl V72 rfl ⟨by decide, by decide⟩ (v := (.ref aL)) rfl ?_
  refine f_astore A79 d18_22 (pc' := 24) rfl rfl (L' := #[.val .null, .val .null, .val (.ref b72), .val (.int (4 : Int32)), .val (.int (3 : Int32)), .val (.ref aL)]) rfl ?_
  refine f_aload A79 d18_24 (pc' := 26) rfl rfl rfl ?_
  refine f_getF A79 d18_26 (pc' := 29) rfl (host := "") (Or.inl (wd hw 102 rfl)) Via.refl (F3.ext A79.old.2) fun T80 A80 => ?_
  refine f_aloadN A80 d18_29 (pc' := 30) rfl rfl rfl ?_
  refine f_callV A80 (a := kL) d18_30 (pc' := 33) rfl (wd hw 104 rfl) (wd hw 105 rfl) (nfS A80 (wd hw 107 rfl)) (wd hw 107 rfl) (wd hw 106 rfl) (by decide) (G3.exa.ext A80.old.2) pd9 [.null] [] rfl rfl rfl 0 (Nat.le_of_eq rfl) (CN.pay (W := 0) A80 (m_eqNull l Z a0 hw kL h72 n0 A80.old) (wd hw 108 rfl) (wd hw 5 rfl) (by decide) (by decide)) (kc := 0) (ks := 0) (by decide) (by decide) all0 (fun q => nomatch q) fun v81 T81 h81 L81 A81 K81 q81 => ?_
  obtain ⟨rfl, hh81⟩ := q81
  obtain rfl := hh81.symm
  show Wp pG e below _ T81 (mkF m 33 _ [(.int (0 : Int32))])
  refine f_ifY A81 d18_33 ((if0 _ _).trans (teq (by decide : (0 : Int32) = (0 : Int32))).1) (pc' := 42) (by decide) (by decide) ?_
  refine f_iinc A81 d18_42 (pc' := 45) rfl rfl (4 : Int32) (by decide) (L' := #[.val .null, .val .null, .val (.ref b72), .val (.int (4 : Int32)), .val (.int (4 : Int32)), .val (.ref aL)]) rfl ?_
  refine f_goto A81 d18_45 (pc' := 12) (by decide) (by decide) ?_
  refine f_iload A81 d18_12 (pc' := 14) rfl rfl ?_
  refine f_iloadN A81 d18_14 (pc' := 15) rfl rfl ?_
  refine f_icY A81 d18_15 (flt (by decide : ¬ (4 : Int32) < (4 : Int32))).2.1 (pc' := 48) (by decide) (by decide) ?_
  refine f_aloadN A81 d18_48 (pc' := 49) rfl rfl rfl ?_
  exact f_retRN A81 hlk hret d18_49 rfl rfl (by decide) (by decide) Q73 rfl
theorem d18_36 : decode prog_19_method_5_code 36 = .ok (.aload 5, 2) := by decide +kernel
theorem d18_38 : decode prog_19_method_5_code 38 = .ok (.astore_n 1, 1) := by decide +kernel
theorem d18_39 : decode prog_19_method_5_code 39 = .ok (.goto 9, 3) := by decide +kernel
set_option maxRecDepth 65536 in
set_option maxHeartbeats 40000000 in
theorem m_fk (l : Launch) (Z : State) (a0 : Array Value) (hw : ∀ d ∈ tables_1, d.before a0 Z = true) (aA aD aM aL vv : Addr) (x t : Addr) (cs : List Int32) (r : Value) (zc : Int32) (O2 : Sta Z Z.heap "java/lang/String" "COMPACT_STRINGS" "Z" (.int zc)) (P5 : ¬ zc = 0) (h0 : Heap) (n0 : Nat) (ho : Old Z n0 h0) (hV : Verd Z aA aD aM aL vv) (F : Str Z h0 x t cs) (hr : vOf aA aD aM aL cs = r) :
    CN l (⟨"com/example/confinement/confinement/policy/Verdict", "forKeyword", "(Ljava/lang/String;)Lcom/example/confinement/confinement/policy/Verdict;"⟩ : MethodName) prog_19_method_5_code 6 (some (.object "com/example/confinement/confinement/policy/Verdict")) [] ({ frames := 3, cells := 1, slots := 4, locals := 60 } : Room) Z n0 h0 #[(.ref x)] [] (fun v h => v = some r) := by
  refine CN.walk (plainFor_of_name pn2) ho (L0 := #[.val (.ref x), .unset, .unset, .unset, .unset, .unset]) (fun m => rfl) ?_
  intro pG e s m below meth cO T hlk hret hnm A0
  have K0 : Keep h0 h0 [] := Keep.refl _ _
  obtain ⟨kA, kD, kM, kL, tA, tD, tM, tL, kV, S0, E0, F0, G0, S1, E1, F1, G1, S2, E2, F2, G2, S3, E3, F3, G3, SV, EV, VV⟩ := id hV
  refine f_aconst_null A0 d18_0 (pc' := 1) rfl ?_
  refine f_astoreN A0 d18_1 (pc' := 2) rfl rfl (L' := #[.val (.ref x), .val .null, .unset, .unset, .unset, .unset]) rfl ?_
  refine f_callS A0 d18_2 (pc' := 5) rfl (wd hw 84 rfl) (wd hw 85 rfl) (wd hw 16 rfl) (wd hw 86 rfl) (by decide) pd8 [] [] rfl rfl rfl 0 (Nat.le_of_eq rfl) (CN.pay (W := 0) A0 (m_vals l Z a0 hw aA aD aM aL vv h0 n0 A0.old hV) (wd hw 86 rfl) (wd hw 16 rfl) (by decide) (by decide)) (kc := 1) (ks := 4) (by decide) (by decide) all0 (fun q => nomatch q) fun v82 T82 h82 L82 A82 K82 q82 => ?_
  have Q83 : Keep h0 h82 [] := K0.trans K82 all0
  obtain ⟨b82, kv82, rfl, bg82, V82⟩ := q82
  show Wp pG e below _ T82 (mkF m 5 _ [(.ref b82)])
  refine f_astoreN A82 d18_5 (pc' := 6) rfl rfl (L' := #[.val (.ref x), .val .null, .val (.ref b82), .unset, .unset, .unset]) rfl ?_
  refine f_aloadN A82 d18_6 (pc' := 7) rfl rfl rfl ?_
  refine f_arraylength A82 d18_7 (pc' := 8) rfl V82 ?_
  refine f_istoreN A82 d18_8 (pc' := 9) rfl (L' := #[.val (.ref x), .val .null, .val (.ref b82), .val (.int (4 : Int32)), .unset, .unset]) rfl ?_
  refine f_iconst A82 d18_9 (pc' := 10) rfl 0 rfl ?_
  refine f_istore A82 d18_10 (pc' := 12) rfl (L' := #[.val (.ref x), .val .null, .val (.ref b82), .val (.int (4 : Int32)), .val (.int (0 : Int32)), .unset]) rfl ?_
  refine f_iload A82 d18_12 (pc' := 14) rfl rfl ?_
  refine f_iloadN A82 d18_14 (pc' := 15) rfl rfl ?_
  refine f_icN A82 d18_15 (tlt (by decide : (0 : Int32) < (4 : Int32))).2.1 (pc' := 18) rfl ?_
  refine f_aloadN A82 d18_18 (pc' := 19) rfl rfl rfl ?_
  refine f_iload A82 d18_19 (pc' := 21) rfl rfl ?_
  refine f_aaload A82 d18_21 (pc' := 22) rfl V82 rfl ⟨by decide, by decide⟩ (v := (.ref aA)) rfl ?_
  refine f_astore A82 d18_22 (pc' := 24) rfl rfl (L' := #[.val (.ref x), .val .null, .val (.ref b82), .val (.int (4 : Int32)), .val (.int (0 : Int32)), .val (.ref aA)]) rfl ?_
  refine f_aload A82 d18_24 (pc' := 26) rfl rfl rfl ?_
  refine f_getF A82 d18_26 (pc' := 29) rfl (host := "") (Or.inl (wd hw 102 rfl)) Via.refl (F0.ext A82.old.2) fun T84 A84 => ?_
  refine f_aloadN A84 d18_29 (pc' := 30) rfl rfl rfl ?_
  have c85 := (F.keep K82 nin0 nin0)
  refine f_callV A84 (a := kA) d18_30 (pc' := 33) rfl (wd hw 104 rfl) (wd hw 105 rfl) (nfS A84 (wd hw 107 rfl)) (wd hw 107 rfl) (wd hw 106 rfl) (by decide) (G0.exa.ext A84.old.2) pd9 [(.ref x)] [] rfl rfl rfl 0 (Nat.le_of_eq rfl) (payEq (W := 0) A84 hw (wd hw 6 rfl) (G0.ext A84.old.2) c85 O2 P5 (by decide) (by decide)) (kc := 0) (ks := 0) (by decide) (by decide) all0 (fun q => nomatch q) fun v86 T86 h86 L86 A86 K86 q86 => ?_
  obtain ⟨rfl, hh86⟩ := q86
  obtain rfl := hh86.symm
  show Wp pG e below _ T86 (mkF m 33 _ [(.int (if [(97 : Int32), (108 : Int32), (108 : Int32), (111 : Int32), (119 : Int32)] = cs then 1 else 0))])
  by_cases q0 : [(97 : Int32), (108 : Int32), (108 : Int32), (111 : Int32), (119 : Int32)] = cs
  · rw [if_pos q0]
    refine f_ifN A86 d18_33 ((if0 _ _).trans (feq (by decide : ¬ (1 : Int32) = (0 : Int32))).1) (pc' := 36) rfl ?_
    refine f_aload A86 d18_36 (pc' := 38) rfl rfl rfl ?_
    refine f_astoreN A86 d18_38 (pc' := 39) rfl rfl (L' := #[.val (.ref x), .val (.ref aA), .val (.ref b82), .val (.int (4 : Int32)), .val (.int (0 : Int32)), .val (.ref aA)]) rfl ?_
    refine f_goto A86 d18_39 (pc' := 48) (by decide) (by decide) ?_
    refine f_aloadN A86 d18_48 (pc' := 49) rfl rfl rfl ?_
    exact f_retRN A86 hlk hret d18_49 rfl rfl (by decide) (by decide) Q83 (by rw [← hr, vOf, if_pos q0])
  · rw [if_neg q0]
    refine f_ifY A86 d18_33 ((if0 _ _).trans (teq (by decide : (0 : Int32) = (0 : Int32))).1) (pc' := 42) (by decide) (by decide) ?_
    refine f_iinc A86 d18_42 (pc' := 45) rfl rfl (1 : Int32) (by decide) (L' := #[.val (.ref x), .val .null, .val (.ref b82), .val (.int (4 : Int32)), .val (.int (1 : Int32)), .val (.ref aA)]) rfl ?_
    refine f_goto A86 d18_45 (pc' := 12) (by decide) (by decide) ?_
    refine f_iload A86 d18_12 (pc' := 14) rfl rfl ?_
    refine f_iloadN A86 d18_14 (pc' := 15) rfl rfl ?_
    refine f_icN A86 d18_15 (tlt (by decide : (1 : Int32) < (4 : Int32))).2.1 (pc' := 18) rfl ?_
    refine f_aloadN A86 d18_18 (pc' := 19) rfl rfl rfl ?_
    refine f_iload A86 d18_19 (pc' := 21) rfl rfl ?_
    refine f_aaload A86 d18_21 (pc' := 22) rfl V82 rfl ⟨by decide, by decide⟩ (v := (.ref aD)) rfl ?_
    refine f_astore A86 d18_22 (pc' := 24) rfl rfl (L' := #[.val (.ref x), .val .null, .val (.ref b82), .val (.int (4 : Int32)), .val (.int (1 : Int32)), .val (.ref aD)]) rfl ?_
    refine f_aload A86 d18_24 (pc' := 26) rfl rfl rfl ?_
    refine f_getF A86 d18_26 (pc' := 29) rfl (host := "") (Or.inl (wd hw 102 rfl)) Via.refl (F1.ext A86.old.2) fun T87 A87 => ?_
    refine f_aloadN A87 d18_29 (pc' := 30) rfl rfl rfl ?_
    refine f_callV A87 (a := kD) d18_30 (pc' := 33) rfl (wd hw 104 rfl) (wd hw 105 rfl) (nfS A87 (wd hw 107 rfl)) (wd hw 107 rfl) (wd hw 106 rfl) (by decide) (G1.exa.ext A87.old.2) pd9 [(.ref x)] [] rfl rfl rfl 0 (Nat.le_of_eq rfl) (payEq (W := 0) A87 hw (wd hw 6 rfl) (G1.ext A87.old.2) c85 O2 P5 (by decide) (by decide)) (kc := 0) (ks := 0) (by decide) (by decide) all0 (fun q => nomatch q) fun v88 T88 h88 L88 A88 K88 q88 => ?_
    obtain ⟨rfl, hh88⟩ := q88
    obtain rfl := hh88.symm
    show Wp pG e below _ T88 (mkF m 33 _ [(.int (if [(100 : Int32), (101 : Int32), (110 : Int32), (121 : Int32)] = cs then 1 else 0))])
    by_cases q1 : [(100 : Int32), (101 : Int32), (110 : Int32), (121 : Int32)] = cs
    · rw [if_pos q1]
      refine f_ifN A88 d18_33 ((if0 _ _).trans (feq (by decide : ¬ (1 : Int32) = (0 : Int32))).1) (pc' := 36) rfl ?_
      refine f_aload A88 d18_36 (pc' := 38) rfl rfl rfl ?_
      refine f_astoreN A88 d18_38 (pc' := 39) rfl rfl (L' := #[.val (.ref x), .val (.ref aD), .val (.ref b82), .val (.int (4 : Int32)), .val (.int (1 : Int32)), .val (.ref aD)]) rfl ?_
      refine f_goto A88 d18_39 (pc' := 48) (by decide) (by decide) ?_
      refine f_aloadN A88 d18_48 (pc' := 49) rfl rfl rfl ?_
      exact f_retRN A88 hlk hret d18_49 rfl rfl (by decide) (by decide) Q83 (by rw [← hr, vOf, if_neg q0, if_pos q1])
    · rw [if_neg q1]
      refine f_ifY A88 d18_33 ((if0 _ _).trans (teq (by decide : (0 : Int32) = (0 : Int32))).1) (pc' := 42) (by decide) (by decide) ?_
      refine f_iinc A88 d18_42 (pc' := 45) rfl rfl (2 : Int32) (by decide) (L' := #[.val (.ref x), .val .null, .val (.ref b82), .val (.int (4 : Int32)), .val (.int (2 : Int32)), .val (.ref aD)]) rfl ?_
      refine f_goto A88 d18_45 (pc' := 12) (by decide) (by decide) ?_
      refine f_iload A88 d18_12 (pc' := 14) rfl rfl ?_
      refine f_iloadN A88 d18_14 (pc' := 15) rfl rfl ?_
      refine f_icN A88 d18_15 (tlt (by decide : (2 : Int32) < (4 : Int32))).2.1 (pc' := 18) rfl ?_
      refine f_aloadN A88 d18_18 (pc' := 19) rfl rfl rfl ?_
      refine f_iload A88 d18_19 (pc' := 21) rfl rfl ?_
      refine f_aaload A88 d18_21 (pc' := 22) rfl V82 rfl ⟨by decide, by decide⟩ (v := (.ref aM)) rfl ?_
      refine f_astore A88 d18_22 (pc' := 24) rfl rfl (L' := #[.val (.ref x), .val .null, .val (.ref b82), .val (.int (4 : Int32)), .val (.int (2 : Int32)), .val (.ref aM)]) rfl ?_
      refine f_aload A88 d18_24 (pc' := 26) rfl rfl rfl ?_
      refine f_getF A88 d18_26 (pc' := 29) rfl (host := "") (Or.inl (wd hw 102 rfl)) Via.refl (F2.ext A88.old.2) fun T89 A89 => ?_
      refine f_aloadN A89 d18_29 (pc' := 30) rfl rfl rfl ?_
      refine f_callV A89 (a := kM) d18_30 (pc' := 33) rfl (wd hw 104 rfl) (wd hw 105 rfl) (nfS A89 (wd hw 107 rfl)) (wd hw 107 rfl) (wd hw 106 rfl) (by decide) (G2.exa.ext A89.old.2) pd9 [(.ref x)] [] rfl rfl rfl 0 (Nat.le_of_eq rfl) (payEq (W := 0) A89 hw (wd hw 6 rfl) (G2.ext A89.old.2) c85 O2 P5 (by decide) (by decide)) (kc := 0) (ks := 0) (by decide) (by decide) all0 (fun q => nomatch q) fun v90 T90 h90 L90 A90 K90 q90 => ?_
      obtain ⟨rfl, hh90⟩ := q90
      obtain rfl := hh90.symm
      show Wp pG e below _ T90 (mkF m 33 _ [(.int (if [(109 : Int32), (111 : Int32), (99 : Int32), (107 : Int32)] = cs then 1 else 0))])
      by_cases q2 : [(109 : Int32), (111 : Int32), (99 : Int32), (107 : Int32)] = cs
      · rw [if_pos q2]
        refine f_ifN A90 d18_33 ((if0 _ _).trans (feq (by decide : ¬ (1 : Int32) = (0 : Int32))).1) (pc' := 36) rfl ?_
        refine f_aload A90 d18_36 (pc' := 38) rfl rfl rfl ?_
        refine f_astoreN A90 d18_38 (pc' := 39) rfl rfl (L' := #[.val (.ref x), .val (.ref aM), .val (.ref b82), .val (.int (4 : Int32)), .val (.int (2 : Int32)), .val (.ref aM)]) rfl ?_
        refine f_goto A90 d18_39 (pc' := 48) (by decide) (by decide) ?_
        refine f_aloadN A90 d18_48 (pc' := 49) rfl rfl rfl ?_
        exact f_retRN A90 hlk hret d18_49 rfl rfl (by decide) (by decide) Q83 (by rw [← hr, vOf, if_neg q0, if_neg q1, if_pos q2])
      · rw [if_neg q2]
        refine f_ifY A90 d18_33 ((if0 _ _).trans (teq (by decide : (0 : Int32) = (0 : Int32))).1) (pc' := 42) (by decide) (by decide) ?_
        refine f_iinc A90 d18_42 (pc' := 45) rfl rfl (3 : Int32) (by decide) (L' := #[.val (.ref x), .val .null, .val (.ref b82), .val (.int (4 : Int32)), .val (.int (3 : Int32)), .val (.ref aM)]) rfl ?_
        refine f_goto A90 d18_45 (pc' := 12) (by decide) (by decide) ?_
        refine f_iload A90 d18_12 (pc' := 14) rfl rfl ?_
        refine f_iloadN A90 d18_14 (pc' := 15) rfl rfl ?_
        refine f_icN A90 d18_15 (tlt (by decide : (3 : Int32) < (4 : Int32))).2.1 (pc' := 18) rfl ?_
        refine f_aloadN A90 d18_18 (pc' := 19) rfl rfl rfl ?_
        refine f_iload A90 d18_19 (pc' := 21) rfl rfl ?_
        refine f_aaload A90 d18_21 (pc' := 22) rfl V82 rfl ⟨by decide, by decide⟩ (v := (.ref aL)) rfl ?_
        refine f_astore A90 d18_22 (pc' := 24) rfl rfl (L' := #[.val (.ref x), .val .null, .val (.ref b82), .val (.int (4 : Int32)), .val (.int (3 : Int32)), .val (.ref aL)]) rfl ?_
        refine f_aload A90 d18_24 (pc' := 26) rfl rfl rfl ?_
        refine f_getF A90 d18_26 (pc' := 29) rfl (host := "") (Or.inl (wd hw 102 rfl)) Via.refl (F3.ext A90.old.2) fun T91 A91 => ?_
        refine f_aloadN A91 d18_29 (pc' := 30) rfl rfl rfl ?_
        refine f_callV A91 (a := kL) d18_30 (pc' := 33) rfl (wd hw 104 rfl) (wd hw 105 rfl) (nfS A91 (wd hw 107 rfl)) (wd hw 107 rfl) (wd hw 106 rfl) (by decide) (G3.exa.ext A91.old.2) pd9 [(.ref x)] [] rfl rfl rfl 0 (Nat.le_of_eq rfl) (payEq (W := 0) A91 hw (wd hw 6 rfl) (G3.ext A91.old.2) c85 O2 P5 (by decide) (by decide)) (kc := 0) (ks := 0) (by decide) (by decide) all0 (fun q => nomatch q) fun v92 T92 h92 L92 A92 K92 q92 => ?_
        obtain ⟨rfl, hh92⟩ := q92
        obtain rfl := hh92.symm
        show Wp pG e below _ T92 (mkF m 33 _ [(.int (if [(108 : Int32), (111 : Int32), (103 : Int32)] = cs then 1 else 0))])
        by_cases q3 : [(108 : Int32), (111 : Int32), (103 : Int32)] = cs
        · rw [if_pos q3]
          refine f_ifN A92 d18_33 ((if0 _ _).trans (feq (by decide : ¬ (1 : Int32) = (0 : Int32))).1) (pc' := 36) rfl ?_
          refine f_aload A92 d18_36 (pc' := 38) rfl rfl rfl ?_
          refine f_astoreN A92 d18_38 (pc' := 39) rfl rfl (L' := #[.val (.ref x), .val (.ref aL), .val (.ref b82), .val (.int (4 : Int32)), .val (.int (3 : Int32)), .val (.ref aL)]) rfl ?_
          refine f_goto A92 d18_39 (pc' := 48) (by decide) (by decide) ?_
          refine f_aloadN A92 d18_48 (pc' := 49) rfl rfl rfl ?_
          exact f_retRN A92 hlk hret d18_49 rfl rfl (by decide) (by decide) Q83 (by rw [← hr, vOf, if_neg q0, if_neg q1, if_neg q2, if_pos q3])
        · rw [if_neg q3]
          refine f_ifY A92 d18_33 ((if0 _ _).trans (teq (by decide : (0 : Int32) = (0 : Int32))).1) (pc' := 42) (by decide) (by decide) ?_
          refine f_iinc A92 d18_42 (pc' := 45) rfl rfl (4 : Int32) (by decide) (L' := #[.val (.ref x), .val .null, .val (.ref b82), .val (.int (4 : Int32)), .val (.int (4 : Int32)), .val (.ref aL)]) rfl ?_
          refine f_goto A92 d18_45 (pc' := 12) (by decide) (by decide) ?_
          refine f_iload A92 d18_12 (pc' := 14) rfl rfl ?_
          refine f_iloadN A92 d18_14 (pc' := 15) rfl rfl ?_
          refine f_icY A92 d18_15 (flt (by decide : ¬ (4 : Int32) < (4 : Int32))).2.1 (pc' := 48) (by decide) (by decide) ?_
          refine f_aloadN A92 d18_48 (pc' := 49) rfl rfl rfl ?_
          exact f_retRN A92 hlk hret d18_49 rfl rfl (by decide) (by decide) Q83 (by rw [← hr, vOf, if_neg q0, if_neg q1, if_neg q2, if_neg q3])
theorem pn3 : plainName "com/example/confinement/confinement/policy/VerdictForKeywordPinLaw" = true := by first | (simp [plainName, overriddenIn]; done) | decide +kernel
theorem d1_0 : decode method_2_code 0 = .ok (.iload_n 0, 1) := by decide +kernel
theorem d1_1 : decode method_2_code 1 = .ok (.ifCond .ne 6, 3) := by decide +kernel
theorem d1_4 : decode method_2_code 4 = .ok (.ldc 7, 2) := by decide +kernel
theorem d1_6 : decode method_2_code 6 = .ok (.areturn, 1) := by decide +kernel
set_option maxRecDepth 65536 in
set_option maxHeartbeats 40000000 in
theorem m_kw0 (l : Launch) (Z : State) (a0 : Array Value) (hw : ∀ d ∈ tables_1, d.before a0 Z = true)  (h0 : Heap) (n0 : Nat) (ho : Old Z n0 h0) (hEL : EW Z a0 ELs)  :
    CW l (⟨"com/example/confinement/confinement/policy/VerdictForKeywordPinLaw", "kw", "(I)Ljava/lang/String;"⟩ : MethodName) method_2_code 1 (some (.object "java/lang/String")) [] ({ frames := 0, cells := 2, slots := 24, locals := 0 } : Room) Z ELs [] n0 h0 #[(.int (0 : Int32))] [] (fun v h => ∃ (x t : Addr), v = some (.ref x) ∧ Str Z h x t [(97 : Int32), (108 : Int32), (108 : Int32), (111 : Int32), (119 : Int32)]) := by
  refine CW.walk (plainFor_of_name pn3) ho (L0 := #[.val (.int (0 : Int32))]) (fun m => rfl) ?_
  intro pG e s m below meth cO T hlk hret hnm hSL A0
  have K0 : Keep h0 h0 [] := Keep.refl _ _
  refine f_iloadN A0 d1_0 (pc' := 1) rfl rfl ?_
  refine f_ifN A0 d1_1 ((if0 _ _).trans (teq (by decide : (0 : Int32) = (0 : Int32))).2) (pc' := 4) rfl ?_
  refine f_ldcC A0 d1_4 (pc' := 6) rfl (by decide) (vs := [(.int (97 : Int32)), (.int (108 : Int32)), (.int (108 : Int32)), (.int (111 : Int32)), (.int (119 : Int32))]) (z := 5) ⟨by decide, by decide⟩ (by decide) (by decide) (wd hw 4 rfl) (strA hw) hEL (n := 20) (by decide) (by decide) (by decide) (by decide) fun a93 b93 kb93 vm93 T93 h93 A93 E93 C93 Li93 x93 fc93 fv93 av93 hs93 => ?_
  have G93 : Str Z h93 a93 b93 [(97 : Int32), (108 : Int32), (108 : Int32), (111 : Int32), (119 : Int32)] := strLit x93 fc93 fv93 av93 (Or.inl ⟨rfl, rfl, rfl, by decide⟩) (by decide) (by decide)
  have Q94 : Keep h0 h93 [] := K0.ext E93
  exact f_retRW A93 hEL hlk hret d1_6 rfl rfl (by decide) (by decide) Q94 ⟨a93, b93, rfl, G93⟩
theorem d2_0 : decode method_3_code 0 = .ok (.iload_n 0, 1) := by decide +kernel
theorem d2_1 : decode method_3_code 1 = .ok (.ifCond .ne 7, 3) := by decide +kernel
theorem d2_4 : decode method_3_code 4 = .ok (.getstatic 15, 3) := by decide +kernel
theorem d2_7 : decode method_3_code 7 = .ok (.areturn, 1) := by decide +kernel
set_option maxRecDepth 65536 in
set_option maxHeartbeats 40000000 in
theorem m_ek0 (l : Launch) (Z : State) (a0 : Array Value) (hw : ∀ d ∈ tables_1, d.before a0 Z = true) (aA aD aM aL vv : Addr) (h0 : Heap) (n0 : Nat) (ho : Old Z n0 h0) (hV : Verd Z aA aD aM aL vv) :
    CN l (⟨"com/example/confinement/confinement/policy/VerdictForKeywordPinLaw", "ek", "(I)Lcom/example/confinement/confinement/policy/Verdict;"⟩ : MethodName) method_3_code 1 (some (.object "com/example/confinement/confinement/policy/Verdict")) [] ({ frames := 0, cells := 0, slots := 0, locals := 0 } : Room) Z n0 h0 #[(.int (0 : Int32))] [] (fun v h => v = some (.ref aA) ∧ h = h0) := by
  refine CN.walk (plainFor_of_name pn3) ho (L0 := #[.val (.int (0 : Int32))]) (fun m => rfl) ?_
  intro pG e s m below meth cO T hlk hret hnm A0
  have K0 : Keep h0 h0 [] := Keep.refl _ _
  obtain ⟨kA, kD, kM, kL, tA, tD, tM, tL, kV, S0, E0, F0, G0, S1, E1, F1, G1, S2, E2, F2, G2, S3, E3, F3, G3, SV, EV, VV⟩ := id hV
  refine f_iloadN A0 d2_0 (pc' := 1) rfl rfl ?_
  refine f_ifN A0 d2_1 ((if0 _ _).trans (teq (by decide : (0 : Int32) = (0 : Int32))).2) (pc' := 4) rfl ?_
  refine f_getS A0 d2_4 (pc' := 7) rfl (host := "") (Or.inl (wd hw 15 rfl)) Via.refl S0 fun T95 A95 => ?_
  exact f_retRN A95 hlk hret d2_7 rfl rfl (by decide) (by decide) K0 ⟨rfl, rfl⟩
theorem d1_7 : decode method_2_code 7 = .ok (.iload_n 0, 1) := by decide +kernel
theorem d1_8 : decode method_2_code 8 = .ok (.iconst 1, 1) := by decide +kernel
theorem d1_9 : decode method_2_code 9 = .ok (.if_icmp .ne 6, 3) := by decide +kernel
theorem d1_12 : decode method_2_code 12 = .ok (.ldc 9, 2) := by decide +kernel
theorem d1_14 : decode method_2_code 14 = .ok (.areturn, 1) := by decide +kernel
set_option maxRecDepth 65536 in
set_option maxHeartbeats 40000000 in
theorem m_kw1 (l : Launch) (Z : State) (a0 : Array Value) (hw : ∀ d ∈ tables_1, d.before a0 Z = true)  (h0 : Heap) (n0 : Nat) (ho : Old Z n0 h0) (hEL : EW Z a0 ELs)  :
    CW l (⟨"com/example/confinement/confinement/policy/VerdictForKeywordPinLaw", "kw", "(I)Ljava/lang/String;"⟩ : MethodName) method_2_code 1 (some (.object "java/lang/String")) [] ({ frames := 0, cells := 2, slots := 24, locals := 0 } : Room) Z ELs [] n0 h0 #[(.int (1 : Int32))] [] (fun v h => ∃ (x t : Addr), v = some (.ref x) ∧ Str Z h x t [(100 : Int32), (101 : Int32), (110 : Int32), (121 : Int32)]) := by
  refine CW.walk (plainFor_of_name pn3) ho (L0 := #[.val (.int (1 : Int32))]) (fun m => rfl) ?_
  intro pG e s m below meth cO T hlk hret hnm hSL A0
  have K0 : Keep h0 h0 [] := Keep.refl _ _
  refine f_iloadN A0 d1_0 (pc' := 1) rfl rfl ?_
  refine f_ifY A0 d1_1 ((if0 _ _).trans (feq (by decide : ¬ (1 : Int32) = (0 : Int32))).2) (pc' := 7) (by decide) (by decide) ?_
  refine f_iloadN A0 d1_7 (pc' := 8) rfl rfl ?_
  refine f_iconst A0 d1_8 (pc' := 9) rfl 1 rfl ?_
  refine f_icN A0 d1_9 (teq (by decide : (1 : Int32) = (1 : Int32))).2 (pc' := 12) rfl ?_
  refine f_ldcC A0 d1_12 (pc' := 14) rfl (by decide) (vs := [(.int (100 : Int32)), (.int (101 : Int32)), (.int (110 : Int32)), (.int (121 : Int32))]) (z := 4) ⟨by decide, by decide⟩ (by decide) (by decide) (wd hw 129 rfl) (strA hw) hEL (n := 16) (by decide) (by decide) (by decide) (by decide) fun a96 b96 kb96 vm96 T96 h96 A96 E96 C96 Li96 x96 fc96 fv96 av96 hs96 => ?_
  have G96 : Str Z h96 a96 b96 [(100 : Int32), (101 : Int32), (110 : Int32), (121 : Int32)] := strLit x96 fc96 fv96 av96 (Or.inl ⟨rfl, rfl, rfl, by decide⟩) (by decide) (by decide)
  have Q97 : Keep h0 h96 [] := K0.ext E96
  exact f_retRW A96 hEL hlk hret d1_14 rfl rfl (by decide) (by decide) Q97 ⟨a96, b96, rfl, G96⟩
theorem d2_8 : decode method_3_code 8 = .ok (.iload_n 0, 1) := by decide +kernel
theorem d2_9 : decode method_3_code 9 = .ok (.iconst 1, 1) := by decide +kernel
theorem d2_10 : decode method_3_code 10 = .ok (.if_icmp .ne 7, 3) := by decide +kernel
theorem d2_13 : decode method_3_code 13 = .ok (.getstatic 21, 3) := by decide +kernel
theorem d2_16 : decode method_3_code 16 = .ok (.areturn, 1) := by decide +kernel
set_option maxRecDepth 65536 in
set_option maxHeartbeats 40000000 in
theorem m_ek1 (l : Launch) (Z : State) (a0 : Array Value) (hw : ∀ d ∈ tables_1, d.before a0 Z = true) (aA aD aM aL vv : Addr) (h0 : Heap) (n0 : Nat) (ho : Old Z n0 h0) (hV : Verd Z aA aD aM aL vv) :
    CN l (⟨"com/example/confinement/confinement/policy/VerdictForKeywordPinLaw", "ek", "(I)Lcom/example/confinement/confinement/policy/Verdict;"⟩ : MethodName) method_3_code 1 (some (.object "com/example/confinement/confinement/policy/Verdict")) [] ({ frames := 0, cells := 0, slots := 0, locals := 0 } : Room) Z n0 h0 #[(.int (1 : Int32))] [] (fun v h => v = some (.ref aD) ∧ h = h0) := by
  refine CN.walk (plainFor_of_name pn3) ho (L0 := #[.val (.int (1 : Int32))]) (fun m => rfl) ?_
  intro pG e s m below meth cO T hlk hret hnm A0
  have K0 : Keep h0 h0 [] := Keep.refl _ _
  obtain ⟨kA, kD, kM, kL, tA, tD, tM, tL, kV, S0, E0, F0, G0, S1, E1, F1, G1, S2, E2, F2, G2, S3, E3, F3, G3, SV, EV, VV⟩ := id hV
  refine f_iloadN A0 d2_0 (pc' := 1) rfl rfl ?_
  refine f_ifY A0 d2_1 ((if0 _ _).trans (feq (by decide : ¬ (1 : Int32) = (0 : Int32))).2) (pc' := 8) (by decide) (by decide) ?_
  refine f_iloadN A0 d2_8 (pc' := 9) rfl rfl ?_
  refine f_iconst A0 d2_9 (pc' := 10) rfl 1 rfl ?_
  refine f_icN A0 d2_10 (teq (by decide : (1 : Int32) = (1 : Int32))).2 (pc' := 13) rfl ?_
  refine f_getS A0 d2_13 (pc' := 16) rfl (host := "") (Or.inl (wd hw 149 rfl)) Via.refl S1 fun T98 A98 => ?_
  exact f_retRN A98 hlk hret d2_16 rfl rfl (by decide) (by decide) K0 ⟨rfl, rfl⟩
theorem d1_15 : decode method_2_code 15 = .ok (.iload_n 0, 1) := by decide +kernel
theorem d1_16 : decode method_2_code 16 = .ok (.iconst 2, 1) := by decide +kernel
theorem d1_17 : decode method_2_code 17 = .ok (.if_icmp .ne 6, 3) := by decide +kernel
theorem d1_20 : decode method_2_code 20 = .ok (.ldc 11, 2) := by decide +kernel
theorem d1_22 : decode method_2_code 22 = .ok (.areturn, 1) := by decide +kernel
set_option maxRecDepth 65536 in
set_option maxHeartbeats 40000000 in
theorem m_kw2 (l : Launch) (Z : State) (a0 : Array Value) (hw : ∀ d ∈ tables_1, d.before a0 Z = true)  (h0 : Heap) (n0 : Nat) (ho : Old Z n0 h0) (hEL : EW Z a0 ELs)  :
    CW l (⟨"com/example/confinement/confinement/policy/VerdictForKeywordPinLaw", "kw", "(I)Ljava/lang/String;"⟩ : MethodName) method_2_code 1 (some (.object "java/lang/String")) [] ({ frames := 0, cells := 2, slots := 24, locals := 0 } : Room) Z ELs [] n0 h0 #[(.int (2 : Int32))] [] (fun v h => ∃ (x t : Addr), v = some (.ref x) ∧ Str Z h x t [(109 : Int32), (111 : Int32), (99 : Int32), (107 : Int32)]) := by
  refine CW.walk (plainFor_of_name pn3) ho (L0 := #[.val (.int (2 : Int32))]) (fun m => rfl) ?_
  intro pG e s m below meth cO T hlk hret hnm hSL A0
  have K0 : Keep h0 h0 [] := Keep.refl _ _
  refine f_iloadN A0 d1_0 (pc' := 1) rfl rfl ?_
  refine f_ifY A0 d1_1 ((if0 _ _).trans (feq (by decide : ¬ (2 : Int32) = (0 : Int32))).2) (pc' := 7) (by decide) (by decide) ?_
  refine f_iloadN A0 d1_7 (pc' := 8) rfl rfl ?_
  refine f_iconst A0 d1_8 (pc' := 9) rfl 1 rfl ?_
  refine f_icY A0 d1_9 (feq (by decide : ¬ (2 : Int32) = (1 : Int32))).2 (pc' := 15) (by decide) (by decide) ?_
  refine f_iloadN A0 d1_15 (pc' := 16) rfl rfl ?_
  refine f_iconst A0 d1_16 (pc' := 17) rfl 2 rfl ?_
  refine f_icN A0 d1_17 (teq (by decide : (2 : Int32) = (2 : Int32))).2 (pc' := 20) rfl ?_
  refine f_ldcC A0 d1_20 (pc' := 22) rfl (by decide) (vs := [(.int (109 : Int32)), (.int (111 : Int32)), (.int (99 : Int32)), (.int (107 : Int32))]) (z := 4) ⟨by decide, by decide⟩ (by decide) (by decide) (wd hw 114 rfl) (strA hw) hEL (n := 16) (by decide) (by decide) (by decide) (by decide) fun a99 b99 kb99 vm99 T99 h99 A99 E99 C99 Li99 x99 fc99 fv99 av99 hs99 => ?_
  have G99 : Str Z h99 a99 b99 [(109 : Int32), (111 : Int32), (99 : Int32), (107 : Int32)] := strLit x99 fc99 fv99 av99 (Or.inl ⟨rfl, rfl, rfl, by decide⟩) (by decide) (by decide)
  have Q100 : Keep h0 h99 [] := K0.ext E99
  exact f_retRW A99 hEL hlk hret d1_22 rfl rfl (by decide) (by decide) Q100 ⟨a99, b99, rfl, G99⟩
theorem d2_17 : decode method_3_code 17 = .ok (.iload_n 0, 1) := by decide +kernel
theorem d2_18 : decode method_3_code 18 = .ok (.iconst 2, 1) := by decide +kernel
theorem d2_19 : decode method_3_code 19 = .ok (.if_icmp .ne 7, 3) := by decide +kernel
theorem d2_22 : decode method_3_code 22 = .ok (.getstatic 24, 3) := by decide +kernel
theorem d2_25 : decode method_3_code 25 = .ok (.areturn, 1) := by decide +kernel
set_option maxRecDepth 65536 in
set_option maxHeartbeats 40000000 in
theorem m_ek2 (l : Launch) (Z : State) (a0 : Array Value) (hw : ∀ d ∈ tables_1, d.before a0 Z = true) (aA aD aM aL vv : Addr) (h0 : Heap) (n0 : Nat) (ho : Old Z n0 h0) (hV : Verd Z aA aD aM aL vv) :
    CN l (⟨"com/example/confinement/confinement/policy/VerdictForKeywordPinLaw", "ek", "(I)Lcom/example/confinement/confinement/policy/Verdict;"⟩ : MethodName) method_3_code 1 (some (.object "com/example/confinement/confinement/policy/Verdict")) [] ({ frames := 0, cells := 0, slots := 0, locals := 0 } : Room) Z n0 h0 #[(.int (2 : Int32))] [] (fun v h => v = some (.ref aM) ∧ h = h0) := by
  refine CN.walk (plainFor_of_name pn3) ho (L0 := #[.val (.int (2 : Int32))]) (fun m => rfl) ?_
  intro pG e s m below meth cO T hlk hret hnm A0
  have K0 : Keep h0 h0 [] := Keep.refl _ _
  obtain ⟨kA, kD, kM, kL, tA, tD, tM, tL, kV, S0, E0, F0, G0, S1, E1, F1, G1, S2, E2, F2, G2, S3, E3, F3, G3, SV, EV, VV⟩ := id hV
  refine f_iloadN A0 d2_0 (pc' := 1) rfl rfl ?_
  refine f_ifY A0 d2_1 ((if0 _ _).trans (feq (by decide : ¬ (2 : Int32) = (0 : Int32))).2) (pc' := 8) (by decide) (by decide) ?_
  refine f_iloadN A0 d2_8 (pc' := 9) rfl rfl ?_
  refine f_iconst A0 d2_9 (pc' := 10) rfl 1 rfl ?_
  refine f_icY A0 d2_10 (feq (by decide : ¬ (2 : Int32) = (1 : Int32))).2 (pc' := 17) (by decide) (by decide) ?_
  refine f_iloadN A0 d2_17 (pc' := 18) rfl rfl ?_
  refine f_iconst A0 d2_18 (pc' := 19) rfl 2 rfl ?_
  refine f_icN A0 d2_19 (teq (by decide : (2 : Int32) = (2 : Int32))).2 (pc' := 22) rfl ?_
  refine f_getS A0 d2_22 (pc' := 25) rfl (host := "") (Or.inl (wd hw 115 rfl)) Via.refl S2 fun T101 A101 => ?_
  exact f_retRN A101 hlk hret d2_25 rfl rfl (by decide) (by decide) K0 ⟨rfl, rfl⟩
theorem d1_23 : decode method_2_code 23 = .ok (.ldc 13, 2) := by decide +kernel
theorem d1_25 : decode method_2_code 25 = .ok (.areturn, 1) := by decide +kernel
set_option maxRecDepth 65536 in
set_option maxHeartbeats 40000000 in
theorem m_kw3 (l : Launch) (Z : State) (a0 : Array Value) (hw : ∀ d ∈ tables_1, d.before a0 Z = true)  (h0 : Heap) (n0 : Nat) (ho : Old Z n0 h0) (hEL : EW Z a0 ELs)  :
    CW l (⟨"com/example/confinement/confinement/policy/VerdictForKeywordPinLaw", "kw", "(I)Ljava/lang/String;"⟩ : MethodName) method_2_code 1 (some (.object "java/lang/String")) [] ({ frames := 0, cells := 2, slots := 24, locals := 0 } : Room) Z ELs [] n0 h0 #[(.int (3 : Int32))] [] (fun v h => ∃ (x t : Addr), v = some (.ref x) ∧ Str Z h x t [(108 : Int32), (111 : Int32), (103 : Int32)]) := by
  refine CW.walk (plainFor_of_name pn3) ho (L0 := #[.val (.int (3 : Int32))]) (fun m => rfl) ?_
  intro pG e s m below meth cO T hlk hret hnm hSL A0
  have K0 : Keep h0 h0 [] := Keep.refl _ _
  refine f_iloadN A0 d1_0 (pc' := 1) rfl rfl ?_
  refine f_ifY A0 d1_1 ((if0 _ _).trans (feq (by decide : ¬ (3 : Int32) = (0 : Int32))).2) (pc' := 7) (by decide) (by decide) ?_
  refine f_iloadN A0 d1_7 (pc' := 8) rfl rfl ?_
  refine f_iconst A0 d1_8 (pc' := 9) rfl 1 rfl ?_
  refine f_icY A0 d1_9 (feq (by decide : ¬ (3 : Int32) = (1 : Int32))).2 (pc' := 15) (by decide) (by decide) ?_
  refine f_iloadN A0 d1_15 (pc' := 16) rfl rfl ?_
  refine f_iconst A0 d1_16 (pc' := 17) rfl 2 rfl ?_
  refine f_icY A0 d1_17 (feq (by decide : ¬ (3 : Int32) = (2 : Int32))).2 (pc' := 23) (by decide) (by decide) ?_
  refine f_ldcC A0 d1_23 (pc' := 25) rfl (by decide) (vs := [(.int (108 : Int32)), (.int (111 : Int32)), (.int (103 : Int32))]) (z := 3) ⟨by decide, by decide⟩ (by decide) (by decide) (wd hw 116 rfl) (strA hw) hEL (n := 12) (by decide) (by decide) (by decide) (by decide) fun a102 b102 kb102 vm102 T102 h102 A102 E102 C102 Li102 x102 fc102 fv102 av102 hs102 => ?_
  have G102 : Str Z h102 a102 b102 [(108 : Int32), (111 : Int32), (103 : Int32)] := strLit x102 fc102 fv102 av102 (Or.inl ⟨rfl, rfl, rfl, by decide⟩) (by decide) (by decide)
  have Q103 : Keep h0 h102 [] := K0.ext E102
  exact f_retRW A102 hEL hlk hret d1_25 rfl rfl (by decide) (by decide) Q103 ⟨a102, b102, rfl, G102⟩
theorem d2_26 : decode method_3_code 26 = .ok (.getstatic 27, 3) := by decide +kernel
theorem d2_29 : decode method_3_code 29 = .ok (.areturn, 1) := by decide +kernel
set_option maxRecDepth 65536 in
set_option maxHeartbeats 40000000 in
theorem m_ek3 (l : Launch) (Z : State) (a0 : Array Value) (hw : ∀ d ∈ tables_1, d.before a0 Z = true) (aA aD aM aL vv : Addr) (h0 : Heap) (n0 : Nat) (ho : Old Z n0 h0) (hV : Verd Z aA aD aM aL vv) :
    CN l (⟨"com/example/confinement/confinement/policy/VerdictForKeywordPinLaw", "ek", "(I)Lcom/example/confinement/confinement/policy/Verdict;"⟩ : MethodName) method_3_code 1 (some (.object "com/example/confinement/confinement/policy/Verdict")) [] ({ frames := 0, cells := 0, slots := 0, locals := 0 } : Room) Z n0 h0 #[(.int (3 : Int32))] [] (fun v h => v = some (.ref aL) ∧ h = h0) := by
  refine CN.walk (plainFor_of_name pn3) ho (L0 := #[.val (.int (3 : Int32))]) (fun m => rfl) ?_
  intro pG e s m below meth cO T hlk hret hnm A0
  have K0 : Keep h0 h0 [] := Keep.refl _ _
  obtain ⟨kA, kD, kM, kL, tA, tD, tM, tL, kV, S0, E0, F0, G0, S1, E1, F1, G1, S2, E2, F2, G2, S3, E3, F3, G3, SV, EV, VV⟩ := id hV
  refine f_iloadN A0 d2_0 (pc' := 1) rfl rfl ?_
  refine f_ifY A0 d2_1 ((if0 _ _).trans (feq (by decide : ¬ (3 : Int32) = (0 : Int32))).2) (pc' := 8) (by decide) (by decide) ?_
  refine f_iloadN A0 d2_8 (pc' := 9) rfl rfl ?_
  refine f_iconst A0 d2_9 (pc' := 10) rfl 1 rfl ?_
  refine f_icY A0 d2_10 (feq (by decide : ¬ (3 : Int32) = (1 : Int32))).2 (pc' := 17) (by decide) (by decide) ?_
  refine f_iloadN A0 d2_17 (pc' := 18) rfl rfl ?_
  refine f_iconst A0 d2_18 (pc' := 19) rfl 2 rfl ?_
  refine f_icY A0 d2_19 (feq (by decide : ¬ (3 : Int32) = (2 : Int32))).2 (pc' := 26) (by decide) (by decide) ?_
  refine f_getS A0 d2_26 (pc' := 29) rfl (host := "") (Or.inl (wd hw 117 rfl)) Via.refl S3 fun T104 A104 => ?_
  exact f_retRN A104 hlk hret d2_29 rfl rfl (by decide) (by decide) K0 ⟨rfl, rfl⟩
theorem d6_0 : decode method_4_code 0 = .ok (.iload_n 0, 1) := by decide +kernel
theorem d6_1 : decode method_4_code 1 = .ok (.ifCond .gt 7, 3) := by decide +kernel
theorem d6_4 : decode method_4_code 4 = .ok (.iconst 0, 1) := by decide +kernel
theorem d6_5 : decode method_4_code 5 = .ok (.newarray .char, 2) := by decide +kernel
theorem d6_7 : decode method_4_code 7 = .ok (.areturn, 1) := by decide +kernel
set_option maxRecDepth 65536 in
set_option maxHeartbeats 40000000 in
theorem m_al0 (l : Launch) (Z : State) (a0 : Array Value) (hw : ∀ d ∈ tables_1, d.before a0 Z = true)  (h0 : Heap) (n0 : Nat) (ho : Old Z n0 h0)  :
    CN l (⟨"com/example/confinement/confinement/policy/VerdictForKeywordPinLaw", "alloc", "(I)[C"⟩ : MethodName) method_4_code 1 (some (.array .char)) [] ({ frames := 0, cells := 1, slots := 0, locals := 0 } : Room) Z n0 h0 #[(.int (0 : Int32))] [] (fun v h => ∃ (a : Addr) (kA : ClassId), v = some (.ref a) ∧ h0.size ≤ a ∧ Arv Z h a kA .char 0 [] (.int 0)) := by
  refine CN.walk (plainFor_of_name pn3) ho (L0 := #[.val (.int (0 : Int32))]) (fun m => rfl) ?_
  intro pG e s m below meth cO T hlk hret hnm A0
  have K0 : Keep h0 h0 [] := Keep.refl _ _
  refine f_iloadN A0 d6_0 (pc' := 1) rfl rfl ?_
  refine f_ifN A0 d6_1 ((if0 _ _).trans (flt (by decide : ¬ (0 : Int32) < (0 : Int32))).2.2.1) (pc' := 4) rfl ?_
  refine f_iconst A0 d6_4 (pc' := 5) rfl 0 rfl ?_
  refine f_newP A0 0 d6_5 (pc' := 7) rfl (wd hw 38 rfl) (by decide) (by decide) (by decide) (by decide) (by decide) (ad := "[C") (by decide) fun a105 T105 h105 k105 g105 A105 E105 F105 X105 => ?_
  have z105 : n0 ≤ a105 := Nat.le_trans A0.sz (Nat.le_of_eq g105.symm)
  have y105 : h0.size ≤ a105 := Nat.le_trans K0.1 (Nat.le_of_eq g105.symm)
  have Q106 : Keep h0 h105 [] := K0.ext E105
  have V105 := F105
  exact f_retRN A105 hlk hret d6_7 rfl rfl (by decide) (by decide) Q106 ⟨a105, k105, rfl, y105, V105⟩
theorem d6_8 : decode method_4_code 8 = .ok (.iload_n 0, 1) := by decide +kernel
theorem d6_9 : decode method_4_code 9 = .ok (.iconst 1, 1) := by decide +kernel
theorem d6_10 : decode method_4_code 10 = .ok (.if_icmp .ne 7, 3) := by decide +kernel
theorem d6_13 : decode method_4_code 13 = .ok (.iconst 1, 1) := by decide +kernel
theorem d6_14 : decode method_4_code 14 = .ok (.newarray .char, 2) := by decide +kernel
theorem d6_16 : decode method_4_code 16 = .ok (.areturn, 1) := by decide +kernel
set_option maxRecDepth 65536 in
set_option maxHeartbeats 40000000 in
theorem m_al1 (l : Launch) (Z : State) (a0 : Array Value) (hw : ∀ d ∈ tables_1, d.before a0 Z = true)  (h0 : Heap) (n0 : Nat) (ho : Old Z n0 h0)  :
    CN l (⟨"com/example/confinement/confinement/policy/VerdictForKeywordPinLaw", "alloc", "(I)[C"⟩ : MethodName) method_4_code 1 (some (.array .char)) [] ({ frames := 0, cells := 1, slots := 1, locals := 0 } : Room) Z n0 h0 #[(.int (1 : Int32))] [] (fun v h => ∃ (a : Addr) (kA : ClassId), v = some (.ref a) ∧ h0.size ≤ a ∧ Arv Z h a kA .char 1 [.int 0] (.int 0)) := by
  refine CN.walk (plainFor_of_name pn3) ho (L0 := #[.val (.int (1 : Int32))]) (fun m => rfl) ?_
  intro pG e s m below meth cO T hlk hret hnm A0
  have K0 : Keep h0 h0 [] := Keep.refl _ _
  refine f_iloadN A0 d6_0 (pc' := 1) rfl rfl ?_
  refine f_ifY A0 d6_1 ((if0 _ _).trans (tlt (by decide : (0 : Int32) < (1 : Int32))).2.2.1) (pc' := 8) (by decide) (by decide) ?_
  refine f_iloadN A0 d6_8 (pc' := 9) rfl rfl ?_
  refine f_iconst A0 d6_9 (pc' := 10) rfl 1 rfl ?_
  refine f_icN A0 d6_10 (teq (by decide : (1 : Int32) = (1 : Int32))).2 (pc' := 13) rfl ?_
  refine f_iconst A0 d6_13 (pc' := 14) rfl 1 rfl ?_
  refine f_newP A0 1 d6_14 (pc' := 16) rfl (wd hw 38 rfl) (by decide) (by decide) (by decide) (by decide) (by decide) (ad := "[C") (by decide) fun a107 T107 h107 k107 g107 A107 E107 F107 X107 => ?_
  have z107 : n0 ≤ a107 := Nat.le_trans A0.sz (Nat.le_of_eq g107.symm)
  have y107 : h0.size ≤ a107 := Nat.le_trans K0.1 (Nat.le_of_eq g107.symm)
  have Q108 : Keep h0 h107 [] := K0.ext E107
  have V107 : Arv Z h107 a107 k107 .char (1 : Int32) [(.int (0 : Int32))] (.int (0 : Int32)) := F107.pad (pad_rep [] (.int (0 : Int32)) 1)
  exact f_retRN A107 hlk hret d6_16 rfl rfl (by decide) (by decide) Q108 ⟨a107, k107, rfl, y107, V107⟩
theorem d6_17 : decode method_4_code 17 = .ok (.iload_n 0, 1) := by decide +kernel
theorem d6_18 : decode method_4_code 18 = .ok (.iconst 2, 1) := by decide +kernel
theorem d6_19 : decode method_4_code 19 = .ok (.if_icmp .ne 7, 3) := by decide +kernel
theorem d6_22 : decode method_4_code 22 = .ok (.iconst 2, 1) := by decide +kernel
theorem d6_23 : decode method_4_code 23 = .ok (.newarray .char, 2) := by decide +kernel
theorem d6_25 : decode method_4_code 25 = .ok (.areturn, 1) := by decide +kernel
set_option maxRecDepth 65536 in
set_option maxHeartbeats 40000000 in
theorem m_al2 (l : Launch) (Z : State) (a0 : Array Value) (hw : ∀ d ∈ tables_1, d.before a0 Z = true)  (h0 : Heap) (n0 : Nat) (ho : Old Z n0 h0)  :
    CN l (⟨"com/example/confinement/confinement/policy/VerdictForKeywordPinLaw", "alloc", "(I)[C"⟩ : MethodName) method_4_code 1 (some (.array .char)) [] ({ frames := 0, cells := 1, slots := 2, locals := 0 } : Room) Z n0 h0 #[(.int (2 : Int32))] [] (fun v h => ∃ (a : Addr) (kA : ClassId), v = some (.ref a) ∧ h0.size ≤ a ∧ Arv Z h a kA .char 2 [.int 0, .int 0] (.int 0)) := by
  refine CN.walk (plainFor_of_name pn3) ho (L0 := #[.val (.int (2 : Int32))]) (fun m => rfl) ?_
  intro pG e s m below meth cO T hlk hret hnm A0
  have K0 : Keep h0 h0 [] := Keep.refl _ _
  refine f_iloadN A0 d6_0 (pc' := 1) rfl rfl ?_
  refine f_ifY A0 d6_1 ((if0 _ _).trans (tlt (by decide : (0 : Int32) < (2 : Int32))).2.2.1) (pc' := 8) (by decide) (by decide) ?_
  refine f_iloadN A0 d6_8 (pc' := 9) rfl rfl ?_
  refine f_iconst A0 d6_9 (pc' := 10) rfl 1 rfl ?_
  refine f_icY A0 d6_10 (feq (by decide : ¬ (2 : Int32) = (1 : Int32))).2 (pc' := 17) (by decide) (by decide) ?_
  refine f_iloadN A0 d6_17 (pc' := 18) rfl rfl ?_
  refine f_iconst A0 d6_18 (pc' := 19) rfl 2 rfl ?_
  refine f_icN A0 d6_19 (teq (by decide : (2 : Int32) = (2 : Int32))).2 (pc' := 22) rfl ?_
  refine f_iconst A0 d6_22 (pc' := 23) rfl 2 rfl ?_
  refine f_newP A0 2 d6_23 (pc' := 25) rfl (wd hw 38 rfl) (by decide) (by decide) (by decide) (by decide) (by decide) (ad := "[C") (by decide) fun a109 T109 h109 k109 g109 A109 E109 F109 X109 => ?_
  have z109 : n0 ≤ a109 := Nat.le_trans A0.sz (Nat.le_of_eq g109.symm)
  have y109 : h0.size ≤ a109 := Nat.le_trans K0.1 (Nat.le_of_eq g109.symm)
  have Q110 : Keep h0 h109 [] := K0.ext E109
  have V109 : Arv Z h109 a109 k109 .char (2 : Int32) [(.int (0 : Int32)), (.int (0 : Int32))] (.int (0 : Int32)) := F109.pad (pad_rep [] (.int (0 : Int32)) 2)
  exact f_retRN A109 hlk hret d6_25 rfl rfl (by decide) (by decide) Q110 ⟨a109, k109, rfl, y109, V109⟩
theorem d6_26 : decode method_4_code 26 = .ok (.iload_n 0, 1) := by decide +kernel
theorem d6_27 : decode method_4_code 27 = .ok (.iconst 3, 1) := by decide +kernel
theorem d6_28 : decode method_4_code 28 = .ok (.if_icmp .ne 7, 3) := by decide +kernel
theorem d6_31 : decode method_4_code 31 = .ok (.iconst 3, 1) := by decide +kernel
theorem d6_32 : decode method_4_code 32 = .ok (.newarray .char, 2) := by decide +kernel
theorem d6_34 : decode method_4_code 34 = .ok (.areturn, 1) := by decide +kernel
set_option maxRecDepth 65536 in
set_option maxHeartbeats 40000000 in
theorem m_al3 (l : Launch) (Z : State) (a0 : Array Value) (hw : ∀ d ∈ tables_1, d.before a0 Z = true)  (h0 : Heap) (n0 : Nat) (ho : Old Z n0 h0)  :
    CN l (⟨"com/example/confinement/confinement/policy/VerdictForKeywordPinLaw", "alloc", "(I)[C"⟩ : MethodName) method_4_code 1 (some (.array .char)) [] ({ frames := 0, cells := 1, slots := 3, locals := 0 } : Room) Z n0 h0 #[(.int (3 : Int32))] [] (fun v h => ∃ (a : Addr) (kA : ClassId), v = some (.ref a) ∧ h0.size ≤ a ∧ Arv Z h a kA .char 3 [.int 0, .int 0, .int 0] (.int 0)) := by
  refine CN.walk (plainFor_of_name pn3) ho (L0 := #[.val (.int (3 : Int32))]) (fun m => rfl) ?_
  intro pG e s m below meth cO T hlk hret hnm A0
  have K0 : Keep h0 h0 [] := Keep.refl _ _
  refine f_iloadN A0 d6_0 (pc' := 1) rfl rfl ?_
  refine f_ifY A0 d6_1 ((if0 _ _).trans (tlt (by decide : (0 : Int32) < (3 : Int32))).2.2.1) (pc' := 8) (by decide) (by decide) ?_
  refine f_iloadN A0 d6_8 (pc' := 9) rfl rfl ?_
  refine f_iconst A0 d6_9 (pc' := 10) rfl 1 rfl ?_
  refine f_icY A0 d6_10 (feq (by decide : ¬ (3 : Int32) = (1 : Int32))).2 (pc' := 17) (by decide) (by decide) ?_
  refine f_iloadN A0 d6_17 (pc' := 18) rfl rfl ?_
  refine f_iconst A0 d6_18 (pc' := 19) rfl 2 rfl ?_
  refine f_icY A0 d6_19 (feq (by decide : ¬ (3 : Int32) = (2 : Int32))).2 (pc' := 26) (by decide) (by decide) ?_
  refine f_iloadN A0 d6_26 (pc' := 27) rfl rfl ?_
  refine f_iconst A0 d6_27 (pc' := 28) rfl 3 rfl ?_
  refine f_icN A0 d6_28 (teq (by decide : (3 : Int32) = (3 : Int32))).2 (pc' := 31) rfl ?_
  refine f_iconst A0 d6_31 (pc' := 32) rfl 3 rfl ?_
  refine f_newP A0 3 d6_32 (pc' := 34) rfl (wd hw 38 rfl) (by decide) (by decide) (by decide) (by decide) (by decide) (ad := "[C") (by decide) fun a111 T111 h111 k111 g111 A111 E111 F111 X111 => ?_
  have z111 : n0 ≤ a111 := Nat.le_trans A0.sz (Nat.le_of_eq g111.symm)
  have y111 : h0.size ≤ a111 := Nat.le_trans K0.1 (Nat.le_of_eq g111.symm)
  have Q112 : Keep h0 h111 [] := K0.ext E111
  have V111 : Arv Z h111 a111 k111 .char (3 : Int32) [(.int (0 : Int32)), (.int (0 : Int32)), (.int (0 : Int32))] (.int (0 : Int32)) := F111.pad (pad_rep [] (.int (0 : Int32)) 3)
  exact f_retRN A111 hlk hret d6_34 rfl rfl (by decide) (by decide) Q112 ⟨a111, k111, rfl, y111, V111⟩
theorem d6_35 : decode method_4_code 35 = .ok (.iload_n 0, 1) := by decide +kernel
theorem d6_36 : decode method_4_code 36 = .ok (.iconst 4, 1) := by decide +kernel
theorem d6_37 : decode method_4_code 37 = .ok (.if_icmp .ne 7, 3) := by decide +kernel
theorem d6_40 : decode method_4_code 40 = .ok (.iconst 4, 1) := by decide +kernel
theorem d6_41 : decode method_4_code 41 = .ok (.newarray .char, 2) := by decide +kernel
theorem d6_43 : decode method_4_code 43 = .ok (.areturn, 1) := by decide +kernel
set_option maxRecDepth 65536 in
set_option maxHeartbeats 40000000 in
theorem m_al4 (l : Launch) (Z : State) (a0 : Array Value) (hw : ∀ d ∈ tables_1, d.before a0 Z = true)  (h0 : Heap) (n0 : Nat) (ho : Old Z n0 h0)  :
    CN l (⟨"com/example/confinement/confinement/policy/VerdictForKeywordPinLaw", "alloc", "(I)[C"⟩ : MethodName) method_4_code 1 (some (.array .char)) [] ({ frames := 0, cells := 1, slots := 4, locals := 0 } : Room) Z n0 h0 #[(.int (4 : Int32))] [] (fun v h => ∃ (a : Addr) (kA : ClassId), v = some (.ref a) ∧ h0.size ≤ a ∧ Arv Z h a kA .char 4 [.int 0, .int 0, .int 0, .int 0] (.int 0)) := by
  refine CN.walk (plainFor_of_name pn3) ho (L0 := #[.val (.int (4 : Int32))]) (fun m => rfl) ?_
  intro pG e s m below meth cO T hlk hret hnm A0
  have K0 : Keep h0 h0 [] := Keep.refl _ _
  refine f_iloadN A0 d6_0 (pc' := 1) rfl rfl ?_
  refine f_ifY A0 d6_1 ((if0 _ _).trans (tlt (by decide : (0 : Int32) < (4 : Int32))).2.2.1) (pc' := 8) (by decide) (by decide) ?_
  refine f_iloadN A0 d6_8 (pc' := 9) rfl rfl ?_
  refine f_iconst A0 d6_9 (pc' := 10) rfl 1 rfl ?_
  refine f_icY A0 d6_10 (feq (by decide : ¬ (4 : Int32) = (1 : Int32))).2 (pc' := 17) (by decide) (by decide) ?_
  refine f_iloadN A0 d6_17 (pc' := 18) rfl rfl ?_
  refine f_iconst A0 d6_18 (pc' := 19) rfl 2 rfl ?_
  refine f_icY A0 d6_19 (feq (by decide : ¬ (4 : Int32) = (2 : Int32))).2 (pc' := 26) (by decide) (by decide) ?_
  refine f_iloadN A0 d6_26 (pc' := 27) rfl rfl ?_
  refine f_iconst A0 d6_27 (pc' := 28) rfl 3 rfl ?_
  refine f_icY A0 d6_28 (feq (by decide : ¬ (4 : Int32) = (3 : Int32))).2 (pc' := 35) (by decide) (by decide) ?_
  refine f_iloadN A0 d6_35 (pc' := 36) rfl rfl ?_
  refine f_iconst A0 d6_36 (pc' := 37) rfl 4 rfl ?_
  refine f_icN A0 d6_37 (teq (by decide : (4 : Int32) = (4 : Int32))).2 (pc' := 40) rfl ?_
  refine f_iconst A0 d6_40 (pc' := 41) rfl 4 rfl ?_
  refine f_newP A0 4 d6_41 (pc' := 43) rfl (wd hw 38 rfl) (by decide) (by decide) (by decide) (by decide) (by decide) (ad := "[C") (by decide) fun a113 T113 h113 k113 g113 A113 E113 F113 X113 => ?_
  have z113 : n0 ≤ a113 := Nat.le_trans A0.sz (Nat.le_of_eq g113.symm)
  have y113 : h0.size ≤ a113 := Nat.le_trans K0.1 (Nat.le_of_eq g113.symm)
  have Q114 : Keep h0 h113 [] := K0.ext E113
  have V113 : Arv Z h113 a113 k113 .char (4 : Int32) [(.int (0 : Int32)), (.int (0 : Int32)), (.int (0 : Int32)), (.int (0 : Int32))] (.int (0 : Int32)) := F113.pad (pad_rep [] (.int (0 : Int32)) 4)
  exact f_retRN A113 hlk hret d6_43 rfl rfl (by decide) (by decide) Q114 ⟨a113, k113, rfl, y113, V113⟩
theorem d6_44 : decode method_4_code 44 = .ok (.iload_n 0, 1) := by decide +kernel
theorem d6_45 : decode method_4_code 45 = .ok (.iconst 5, 1) := by decide +kernel
theorem d6_46 : decode method_4_code 46 = .ok (.if_icmp .ne 7, 3) := by decide +kernel
theorem d6_49 : decode method_4_code 49 = .ok (.iconst 5, 1) := by decide +kernel
theorem d6_50 : decode method_4_code 50 = .ok (.newarray .char, 2) := by decide +kernel
theorem d6_52 : decode method_4_code 52 = .ok (.areturn, 1) := by decide +kernel
set_option maxRecDepth 65536 in
set_option maxHeartbeats 40000000 in
theorem m_al5 (l : Launch) (Z : State) (a0 : Array Value) (hw : ∀ d ∈ tables_1, d.before a0 Z = true)  (h0 : Heap) (n0 : Nat) (ho : Old Z n0 h0)  :
    CN l (⟨"com/example/confinement/confinement/policy/VerdictForKeywordPinLaw", "alloc", "(I)[C"⟩ : MethodName) method_4_code 1 (some (.array .char)) [] ({ frames := 0, cells := 1, slots := 5, locals := 0 } : Room) Z n0 h0 #[(.int (5 : Int32))] [] (fun v h => ∃ (a : Addr) (kA : ClassId), v = some (.ref a) ∧ h0.size ≤ a ∧ Arv Z h a kA .char 5 [.int 0, .int 0, .int 0, .int 0, .int 0] (.int 0)) := by
  refine CN.walk (plainFor_of_name pn3) ho (L0 := #[.val (.int (5 : Int32))]) (fun m => rfl) ?_
  intro pG e s m below meth cO T hlk hret hnm A0
  have K0 : Keep h0 h0 [] := Keep.refl _ _
  refine f_iloadN A0 d6_0 (pc' := 1) rfl rfl ?_
  refine f_ifY A0 d6_1 ((if0 _ _).trans (tlt (by decide : (0 : Int32) < (5 : Int32))).2.2.1) (pc' := 8) (by decide) (by decide) ?_
  refine f_iloadN A0 d6_8 (pc' := 9) rfl rfl ?_
  refine f_iconst A0 d6_9 (pc' := 10) rfl 1 rfl ?_
  refine f_icY A0 d6_10 (feq (by decide : ¬ (5 : Int32) = (1 : Int32))).2 (pc' := 17) (by decide) (by decide) ?_
  refine f_iloadN A0 d6_17 (pc' := 18) rfl rfl ?_
  refine f_iconst A0 d6_18 (pc' := 19) rfl 2 rfl ?_
  refine f_icY A0 d6_19 (feq (by decide : ¬ (5 : Int32) = (2 : Int32))).2 (pc' := 26) (by decide) (by decide) ?_
  refine f_iloadN A0 d6_26 (pc' := 27) rfl rfl ?_
  refine f_iconst A0 d6_27 (pc' := 28) rfl 3 rfl ?_
  refine f_icY A0 d6_28 (feq (by decide : ¬ (5 : Int32) = (3 : Int32))).2 (pc' := 35) (by decide) (by decide) ?_
  refine f_iloadN A0 d6_35 (pc' := 36) rfl rfl ?_
  refine f_iconst A0 d6_36 (pc' := 37) rfl 4 rfl ?_
  refine f_icY A0 d6_37 (feq (by decide : ¬ (5 : Int32) = (4 : Int32))).2 (pc' := 44) (by decide) (by decide) ?_
  refine f_iloadN A0 d6_44 (pc' := 45) rfl rfl ?_
  refine f_iconst A0 d6_45 (pc' := 46) rfl 5 rfl ?_
  refine f_icN A0 d6_46 (teq (by decide : (5 : Int32) = (5 : Int32))).2 (pc' := 49) rfl ?_
  refine f_iconst A0 d6_49 (pc' := 50) rfl 5 rfl ?_
  refine f_newP A0 5 d6_50 (pc' := 52) rfl (wd hw 38 rfl) (by decide) (by decide) (by decide) (by decide) (by decide) (ad := "[C") (by decide) fun a115 T115 h115 k115 g115 A115 E115 F115 X115 => ?_
  have z115 : n0 ≤ a115 := Nat.le_trans A0.sz (Nat.le_of_eq g115.symm)
  have y115 : h0.size ≤ a115 := Nat.le_trans K0.1 (Nat.le_of_eq g115.symm)
  have Q116 : Keep h0 h115 [] := K0.ext E115
  have V115 : Arv Z h115 a115 k115 .char (5 : Int32) [(.int (0 : Int32)), (.int (0 : Int32)), (.int (0 : Int32)), (.int (0 : Int32)), (.int (0 : Int32))] (.int (0 : Int32)) := F115.pad (pad_rep [] (.int (0 : Int32)) 5)
  exact f_retRN A115 hlk hret d6_52 rfl rfl (by decide) (by decide) Q116 ⟨a115, k115, rfl, y115, V115⟩
theorem d6_53 : decode method_4_code 53 = .ok (.iload_n 0, 1) := by decide +kernel
theorem d6_54 : decode method_4_code 54 = .ok (.bipush 6, 2) := by decide +kernel
theorem d6_56 : decode method_4_code 56 = .ok (.if_icmp .ne 8, 3) := by decide +kernel
theorem d6_59 : decode method_4_code 59 = .ok (.bipush 6, 2) := by decide +kernel
theorem d6_61 : decode method_4_code 61 = .ok (.newarray .char, 2) := by decide +kernel
theorem d6_63 : decode method_4_code 63 = .ok (.areturn, 1) := by decide +kernel
set_option maxRecDepth 65536 in
set_option maxHeartbeats 40000000 in
theorem m_al6 (l : Launch) (Z : State) (a0 : Array Value) (hw : ∀ d ∈ tables_1, d.before a0 Z = true)  (h0 : Heap) (n0 : Nat) (ho : Old Z n0 h0)  :
    CN l (⟨"com/example/confinement/confinement/policy/VerdictForKeywordPinLaw", "alloc", "(I)[C"⟩ : MethodName) method_4_code 1 (some (.array .char)) [] ({ frames := 0, cells := 1, slots := 6, locals := 0 } : Room) Z n0 h0 #[(.int (6 : Int32))] [] (fun v h => ∃ (a : Addr) (kA : ClassId), v = some (.ref a) ∧ h0.size ≤ a ∧ Arv Z h a kA .char 6 [.int 0, .int 0, .int 0, .int 0, .int 0, .int 0] (.int 0)) := by
  refine CN.walk (plainFor_of_name pn3) ho (L0 := #[.val (.int (6 : Int32))]) (fun m => rfl) ?_
  intro pG e s m below meth cO T hlk hret hnm A0
  have K0 : Keep h0 h0 [] := Keep.refl _ _
  refine f_iloadN A0 d6_0 (pc' := 1) rfl rfl ?_
  refine f_ifY A0 d6_1 ((if0 _ _).trans (tlt (by decide : (0 : Int32) < (6 : Int32))).2.2.1) (pc' := 8) (by decide) (by decide) ?_
  refine f_iloadN A0 d6_8 (pc' := 9) rfl rfl ?_
  refine f_iconst A0 d6_9 (pc' := 10) rfl 1 rfl ?_
  refine f_icY A0 d6_10 (feq (by decide : ¬ (6 : Int32) = (1 : Int32))).2 (pc' := 17) (by decide) (by decide) ?_
  refine f_iloadN A0 d6_17 (pc' := 18) rfl rfl ?_
  refine f_iconst A0 d6_18 (pc' := 19) rfl 2 rfl ?_
  refine f_icY A0 d6_19 (feq (by decide : ¬ (6 : Int32) = (2 : Int32))).2 (pc' := 26) (by decide) (by decide) ?_
  refine f_iloadN A0 d6_26 (pc' := 27) rfl rfl ?_
  refine f_iconst A0 d6_27 (pc' := 28) rfl 3 rfl ?_
  refine f_icY A0 d6_28 (feq (by decide : ¬ (6 : Int32) = (3 : Int32))).2 (pc' := 35) (by decide) (by decide) ?_
  refine f_iloadN A0 d6_35 (pc' := 36) rfl rfl ?_
  refine f_iconst A0 d6_36 (pc' := 37) rfl 4 rfl ?_
  refine f_icY A0 d6_37 (feq (by decide : ¬ (6 : Int32) = (4 : Int32))).2 (pc' := 44) (by decide) (by decide) ?_
  refine f_iloadN A0 d6_44 (pc' := 45) rfl rfl ?_
  refine f_iconst A0 d6_45 (pc' := 46) rfl 5 rfl ?_
  refine f_icY A0 d6_46 (feq (by decide : ¬ (6 : Int32) = (5 : Int32))).2 (pc' := 53) (by decide) (by decide) ?_
  refine f_iloadN A0 d6_53 (pc' := 54) rfl rfl ?_
  refine f_bipush A0 d6_54 (pc' := 56) rfl 6 rfl ?_
  refine f_icN A0 d6_56 (teq (by decide : (6 : Int32) = (6 : Int32))).2 (pc' := 59) rfl ?_
  refine f_bipush A0 d6_59 (pc' := 61) rfl 6 rfl ?_
  refine f_newP A0 6 d6_61 (pc' := 63) rfl (wd hw 38 rfl) (by decide) (by decide) (by decide) (by decide) (by decide) (ad := "[C") (by decide) fun a117 T117 h117 k117 g117 A117 E117 F117 X117 => ?_
  have z117 : n0 ≤ a117 := Nat.le_trans A0.sz (Nat.le_of_eq g117.symm)
  have y117 : h0.size ≤ a117 := Nat.le_trans K0.1 (Nat.le_of_eq g117.symm)
  have Q118 : Keep h0 h117 [] := K0.ext E117
  have V117 : Arv Z h117 a117 k117 .char (6 : Int32) [(.int (0 : Int32)), (.int (0 : Int32)), (.int (0 : Int32)), (.int (0 : Int32)), (.int (0 : Int32)), (.int (0 : Int32))] (.int (0 : Int32)) := F117.pad (pad_rep [] (.int (0 : Int32)) 6)
  exact f_retRN A117 hlk hret d6_63 rfl rfl (by decide) (by decide) Q118 ⟨a117, k117, rfl, y117, V117⟩
theorem d6_64 : decode method_4_code 64 = .ok (.bipush 7, 2) := by decide +kernel
theorem d6_66 : decode method_4_code 66 = .ok (.newarray .char, 2) := by decide +kernel
theorem d6_68 : decode method_4_code 68 = .ok (.areturn, 1) := by decide +kernel
set_option maxRecDepth 65536 in
set_option maxHeartbeats 40000000 in
theorem m_al7 (l : Launch) (Z : State) (a0 : Array Value) (hw : ∀ d ∈ tables_1, d.before a0 Z = true)  (h0 : Heap) (n0 : Nat) (ho : Old Z n0 h0)  :
    CN l (⟨"com/example/confinement/confinement/policy/VerdictForKeywordPinLaw", "alloc", "(I)[C"⟩ : MethodName) method_4_code 1 (some (.array .char)) [] ({ frames := 0, cells := 1, slots := 7, locals := 0 } : Room) Z n0 h0 #[(.int (7 : Int32))] [] (fun v h => ∃ (a : Addr) (kA : ClassId), v = some (.ref a) ∧ h0.size ≤ a ∧ Arv Z h a kA .char 7 [.int 0, .int 0, .int 0, .int 0, .int 0, .int 0, .int 0] (.int 0)) := by
  refine CN.walk (plainFor_of_name pn3) ho (L0 := #[.val (.int (7 : Int32))]) (fun m => rfl) ?_
  intro pG e s m below meth cO T hlk hret hnm A0
  have K0 : Keep h0 h0 [] := Keep.refl _ _
  refine f_iloadN A0 d6_0 (pc' := 1) rfl rfl ?_
  refine f_ifY A0 d6_1 ((if0 _ _).trans (tlt (by decide : (0 : Int32) < (7 : Int32))).2.2.1) (pc' := 8) (by decide) (by decide) ?_
  refine f_iloadN A0 d6_8 (pc' := 9) rfl rfl ?_
  refine f_iconst A0 d6_9 (pc' := 10) rfl 1 rfl ?_
  refine f_icY A0 d6_10 (feq (by decide : ¬ (7 : Int32) = (1 : Int32))).2 (pc' := 17) (by decide) (by decide) ?_
  refine f_iloadN A0 d6_17 (pc' := 18) rfl rfl ?_
  refine f_iconst A0 d6_18 (pc' := 19) rfl 2 rfl ?_
  refine f_icY A0 d6_19 (feq (by decide : ¬ (7 : Int32) = (2 : Int32))).2 (pc' := 26) (by decide) (by decide) ?_
  refine f_iloadN A0 d6_26 (pc' := 27) rfl rfl ?_
  refine f_iconst A0 d6_27 (pc' := 28) rfl 3 rfl ?_
  refine f_icY A0 d6_28 (feq (by decide : ¬ (7 : Int32) = (3 : Int32))).2 (pc' := 35) (by decide) (by decide) ?_
  refine f_iloadN A0 d6_35 (pc' := 36) rfl rfl ?_
  refine f_iconst A0 d6_36 (pc' := 37) rfl 4 rfl ?_
  refine f_icY A0 d6_37 (feq (by decide : ¬ (7 : Int32) = (4 : Int32))).2 (pc' := 44) (by decide) (by decide) ?_
  refine f_iloadN A0 d6_44 (pc' := 45) rfl rfl ?_
  refine f_iconst A0 d6_45 (pc' := 46) rfl 5 rfl ?_
  refine f_icY A0 d6_46 (feq (by decide : ¬ (7 : Int32) = (5 : Int32))).2 (pc' := 53) (by decide) (by decide) ?_
  refine f_iloadN A0 d6_53 (pc' := 54) rfl rfl ?_
  refine f_bipush A0 d6_54 (pc' := 56) rfl 6 rfl ?_
  refine f_icY A0 d6_56 (feq (by decide : ¬ (7 : Int32) = (6 : Int32))).2 (pc' := 64) (by decide) (by decide) ?_
  refine f_bipush A0 d6_64 (pc' := 66) rfl 7 rfl ?_
  refine f_newP A0 7 d6_66 (pc' := 68) rfl (wd hw 38 rfl) (by decide) (by decide) (by decide) (by decide) (by decide) (ad := "[C") (by decide) fun a119 T119 h119 k119 g119 A119 E119 F119 X119 => ?_
  have z119 : n0 ≤ a119 := Nat.le_trans A0.sz (Nat.le_of_eq g119.symm)
  have y119 : h0.size ≤ a119 := Nat.le_trans K0.1 (Nat.le_of_eq g119.symm)
  have Q120 : Keep h0 h119 [] := K0.ext E119
  have V119 : Arv Z h119 a119 k119 .char (7 : Int32) [(.int (0 : Int32)), (.int (0 : Int32)), (.int (0 : Int32)), (.int (0 : Int32)), (.int (0 : Int32)), (.int (0 : Int32)), (.int (0 : Int32))] (.int (0 : Int32)) := F119.pad (pad_rep [] (.int (0 : Int32)) 7)
  exact f_retRN A119 hlk hret d6_68 rfl rfl (by decide) (by decide) Q120 ⟨a119, k119, rfl, y119, V119⟩
theorem d5_0 : decode method_5_code 0 = .ok (.iload_n 1, 1) := by decide +kernel
theorem d5_1 : decode method_5_code 1 = .ok (.invokestatic 30, 3) := by decide +kernel
theorem pd10 : parseMethodDescriptor "(I)[C" = some ⟨[.int], some (.array .char)⟩ := by decide +kernel
theorem d5_4 : decode method_5_code 4 = .ok (.astore_n 2, 1) := by decide +kernel
theorem d5_5 : decode method_5_code 5 = .ok (.aload_n 0, 1) := by decide +kernel
theorem d5_6 : decode method_5_code 6 = .ok (.invokevirtual 36, 3) := by decide +kernel
theorem pd11 : parseMethodDescriptor "()I" = some ⟨[], some .int⟩ := by decide +kernel
theorem d5_9 : decode method_5_code 9 = .ok (.istore_n 3, 1) := by decide +kernel
theorem d5_10 : decode method_5_code 10 = .ok (.iload_n 3, 1) := by decide +kernel
theorem d5_11 : decode method_5_code 11 = .ok (.ifCond .le 11, 3) := by decide +kernel
theorem d5_14 : decode method_5_code 14 = .ok (.aload_n 2, 1) := by decide +kernel
theorem d5_15 : decode method_5_code 15 = .ok (.iconst 0, 1) := by decide +kernel
theorem d5_16 : decode method_5_code 16 = .ok (.aload_n 0, 1) := by decide +kernel
theorem d5_17 : decode method_5_code 17 = .ok (.iconst 0, 1) := by decide +kernel
theorem d5_18 : decode method_5_code 18 = .ok (.invokevirtual 42, 3) := by decide +kernel
theorem pd12 : parseMethodDescriptor "(I)C" = some ⟨[.int], some .char⟩ := by decide +kernel
theorem d5_21 : decode method_5_code 21 = .ok (.castore, 1) := by decide +kernel
theorem d5_22 : decode method_5_code 22 = .ok (.iload_n 3, 1) := by decide +kernel
theorem d5_23 : decode method_5_code 23 = .ok (.iconst 1, 1) := by decide +kernel
theorem d5_24 : decode method_5_code 24 = .ok (.if_icmp .le 11, 3) := by decide +kernel
theorem d5_27 : decode method_5_code 27 = .ok (.aload_n 2, 1) := by decide +kernel
theorem d5_28 : decode method_5_code 28 = .ok (.iconst 1, 1) := by decide +kernel
theorem d5_29 : decode method_5_code 29 = .ok (.aload_n 0, 1) := by decide +kernel
theorem d5_30 : decode method_5_code 30 = .ok (.iconst 1, 1) := by decide +kernel
theorem d5_31 : decode method_5_code 31 = .ok (.invokevirtual 42, 3) := by decide +kernel
theorem d5_34 : decode method_5_code 34 = .ok (.castore, 1) := by decide +kernel
theorem d5_35 : decode method_5_code 35 = .ok (.iload_n 3, 1) := by decide +kernel
theorem d5_36 : decode method_5_code 36 = .ok (.iconst 2, 1) := by decide +kernel
theorem d5_37 : decode method_5_code 37 = .ok (.if_icmp .le 11, 3) := by decide +kernel
theorem d5_40 : decode method_5_code 40 = .ok (.aload_n 2, 1) := by decide +kernel
theorem d5_41 : decode method_5_code 41 = .ok (.iconst 2, 1) := by decide +kernel
theorem d5_42 : decode method_5_code 42 = .ok (.aload_n 0, 1) := by decide +kernel
theorem d5_43 : decode method_5_code 43 = .ok (.iconst 2, 1) := by decide +kernel
theorem d5_44 : decode method_5_code 44 = .ok (.invokevirtual 42, 3) := by decide +kernel
theorem d5_47 : decode method_5_code 47 = .ok (.castore, 1) := by decide +kernel
theorem d5_48 : decode method_5_code 48 = .ok (.iload_n 3, 1) := by decide +kernel
theorem d5_49 : decode method_5_code 49 = .ok (.iconst 3, 1) := by decide +kernel
theorem d5_50 : decode method_5_code 50 = .ok (.if_icmp .le 11, 3) := by decide +kernel
theorem d5_53 : decode method_5_code 53 = .ok (.aload_n 2, 1) := by decide +kernel
theorem d5_54 : decode method_5_code 54 = .ok (.iconst 3, 1) := by decide +kernel
theorem d5_55 : decode method_5_code 55 = .ok (.aload_n 0, 1) := by decide +kernel
theorem d5_56 : decode method_5_code 56 = .ok (.iconst 3, 1) := by decide +kernel
theorem d5_57 : decode method_5_code 57 = .ok (.invokevirtual 42, 3) := by decide +kernel
theorem d5_60 : decode method_5_code 60 = .ok (.castore, 1) := by decide +kernel
theorem d5_61 : decode method_5_code 61 = .ok (.iload_n 3, 1) := by decide +kernel
theorem d5_62 : decode method_5_code 62 = .ok (.iconst 4, 1) := by decide +kernel
theorem d5_63 : decode method_5_code 63 = .ok (.if_icmp .le 11, 3) := by decide +kernel
theorem d5_66 : decode method_5_code 66 = .ok (.aload_n 2, 1) := by decide +kernel
theorem d5_67 : decode method_5_code 67 = .ok (.iconst 4, 1) := by decide +kernel
theorem d5_68 : decode method_5_code 68 = .ok (.aload_n 0, 1) := by decide +kernel
theorem d5_69 : decode method_5_code 69 = .ok (.iconst 4, 1) := by decide +kernel
theorem d5_70 : decode method_5_code 70 = .ok (.invokevirtual 42, 3) := by decide +kernel
theorem d5_73 : decode method_5_code 73 = .ok (.castore, 1) := by decide +kernel
theorem d5_74 : decode method_5_code 74 = .ok (.aload_n 2, 1) := by decide +kernel
theorem d5_75 : decode method_5_code 75 = .ok (.areturn, 1) := by decide +kernel
set_option maxRecDepth 65536 in
set_option maxHeartbeats 40000000 in
theorem m_ck00 (l : Launch) (Z : State) (a0 : Array Value) (hw : ∀ d ∈ tables_1, d.before a0 Z = true) (x t : Addr) (zc : Int32) (O2 : Sta Z Z.heap "java/lang/String" "COMPACT_STRINGS" "Z" (.int zc)) (P5 : ¬ zc = 0) (fm : Value) (O4 : Sta Z Z.heap "jdk/internal/util/Preconditions" "SIOOBE_FORMATTER" "Ljava/util/function/BiFunction;" fm) (rG3 : fm.isRef = true) (h0 : Heap) (n0 : Nat) (ho : Old Z n0 h0) (F : Str Z h0 x t [(97 : Int32), (108 : Int32), (108 : Int32), (111 : Int32), (119 : Int32)]) :
    CN l (⟨"com/example/confinement/confinement/policy/VerdictForKeywordPinLaw", "copyKw", "(Ljava/lang/String;I)[C"⟩ : MethodName) method_5_code 4 (some (.array .char)) [] ({ frames := 5, cells := 1, slots := 5, locals := 90 } : Room) Z n0 h0 #[(.ref x), (.int (5 : Int32))] [] (fun v h => ∃ (a : Addr) (kA : ClassId), v = some (.ref a) ∧ h0.size ≤ a ∧ Arv Z h a kA .char 5 [(.int (97 : Int32)), (.int (108 : Int32)), (.int (108 : Int32)), (.int (111 : Int32)), (.int (119 : Int32))] (.int 0)) := by
  refine CN.walk (plainFor_of_name pn3) ho (L0 := #[.val (.ref x), .val (.int (5 : Int32)), .unset, .unset]) (fun m => rfl) ?_
  intro pG e s m below meth cO T hlk hret hnm A0
  have K0 : Keep h0 h0 [] := Keep.refl _ _
  refine f_iloadN A0 d5_0 (pc' := 1) rfl rfl ?_
  refine f_callS A0 d5_1 (pc' := 4) rfl (wd hw 35 rfl) (wd hw 36 rfl) (wd hw 2 rfl) (wd hw 37 rfl) (by decide) pd10 [(.int (5 : Int32))] [] rfl rfl rfl 0 (Nat.le_of_eq rfl) (CN.pay (W := 0) A0 (m_al5 l Z a0 hw h0 n0 A0.old) (wd hw 37 rfl) (wd hw 2 rfl) (by decide) (by decide)) (kc := 1) (ks := 5) (by decide) (by decide) all0 (fun q => nomatch q) fun v121 T121 h121 L121 A121 K121 q121 => ?_
  have Q122 : Keep h0 h121 [] := K0.trans K121 all0
  obtain ⟨b121, kA121, rfl, bg121, V121⟩ := q121
  show Wp pG e below _ T121 (mkF m 4 _ [(.ref b121)])
  refine f_astoreN A121 d5_4 (pc' := 5) rfl rfl (L' := #[.val (.ref x), .val (.int (5 : Int32)), .val (.ref b121), .unset]) rfl ?_
  refine f_aloadN A121 d5_5 (pc' := 6) rfl rfl rfl ?_
  have c123 := (F.keep K121 nin0 nin0)
  have c125 := (F.exa.keep K121)
  refine f_callV A121 (a := x) d5_6 (pc' := 9) rfl (wd hw 18 rfl) (wd hw 19 rfl) (nfS A121 (wd hw 21 rfl)) (wd hw 21 rfl) (wd hw 20 rfl) (by decide) c125 pd11 [] [] rfl rfl rfl 0 (Nat.le_of_eq rfl) (payLen (W := 0) A121 hw (wd hw 6 rfl) c123 O2 P5 (by decide) (by decide)) (kc := 0) (ks := 0) (by decide) (by decide) all0 (fun q => nomatch q) fun v124 T124 h124 L124 A124 K124 q124 => ?_
  obtain ⟨rfl, hh124⟩ := q124
  obtain rfl := hh124.symm
  show Wp pG e below _ T124 (mkF m 9 _ [(.int (5 : Int32))])
  refine f_istoreN A124 d5_9 (pc' := 10) rfl (L' := #[.val (.ref x), .val (.int (5 : Int32)), .val (.ref b121), .val (.int (5 : Int32))]) rfl ?_
  refine f_iloadN A124 d5_10 (pc' := 11) rfl rfl ?_
  refine f_ifN A124 d5_11 ((if0 _ _).trans (tlt (by decide : (0 : Int32) < (5 : Int32))).2.2.2) (pc' := 14) rfl ?_
  refine f_aloadN A124 d5_14 (pc' := 15) rfl rfl rfl ?_
  refine f_iconst A124 d5_15 (pc' := 16) rfl 0 rfl ?_
  refine f_aloadN A124 d5_16 (pc' := 17) rfl rfl rfl ?_
  refine f_iconst A124 d5_17 (pc' := 18) rfl 0 rfl ?_
  refine f_callV A124 (a := x) d5_18 (pc' := 21) rfl (wd hw 39 rfl) (wd hw 40 rfl) (nfS A124 (wd hw 42 rfl)) (wd hw 42 rfl) (wd hw 41 rfl) (by decide) c125 pd12 [(.int (0 : Int32))] [(.int (0 : Int32)), (.ref b121)] rfl rfl rfl 2 (Nat.le_of_eq rfl) (payCh (W := 2) A124 hw (wd hw 6 rfl) c123 (by decide) O2 P5 O4 rG3 0 (Nat.le_of_ble_eq_true rfl) rfl (by decide) (by decide)) (kc := 0) (ks := 0) (by decide) (by decide) all0 (fun q => nomatch q) fun v126 T126 h126 L126 A126 K126 q126 => ?_
  obtain ⟨rfl, hh126⟩ := q126
  obtain rfl := hh126.symm
  show Wp pG e below _ T126 (mkF m 21 _ [(.int (97 : Int32)), (.int (0 : Int32)), (.ref b121)])
  refine f_castore A126 d5_21 (pc' := 22) rfl V121 ⟨by decide, by decide⟩ 0 (by decide) (Nat.le_of_ble_eq_true rfl) (97 : Int32) (by decide) (vs' := [(.int (97 : Int32)), (.int (0 : Int32)), (.int (0 : Int32)), (.int (0 : Int32)), (.int (0 : Int32))]) rfl (Nat.le_trans A0.sz bg121) (fun q => nomatch q) fun T127 h127 A127 K127 V127 => ?_
  have Q128 : Keep h0 h127 [] := Q122.trans K127 (allS (Or.inr (Nat.le_trans K0.1 bg121)) all0)
  refine f_iloadN A127 d5_22 (pc' := 23) rfl rfl ?_
  refine f_iconst A127 d5_23 (pc' := 24) rfl 1 rfl ?_
  refine f_icN A127 d5_24 (tlt (by decide : (1 : Int32) < (5 : Int32))).2.2.2 (pc' := 27) rfl ?_
  refine f_aloadN A127 d5_27 (pc' := 28) rfl rfl rfl ?_
  refine f_iconst A127 d5_28 (pc' := 29) rfl 1 rfl ?_
  refine f_aloadN A127 d5_29 (pc' := 30) rfl rfl rfl ?_
  refine f_iconst A127 d5_30 (pc' := 31) rfl 1 rfl ?_
  have c129 := (c123.keep K127 (ninS (Nat.ne_of_lt (Nat.lt_of_lt_of_le F.lt bg121)) nin0) (ninS (Nat.ne_of_lt (Nat.lt_of_lt_of_le F.lt' bg121)) nin0))
  have c131 := (c125.keep K127)
  refine f_callV A127 (a := x) d5_31 (pc' := 34) rfl (wd hw 39 rfl) (wd hw 40 rfl) (nfS A127 (wd hw 42 rfl)) (wd hw 42 rfl) (wd hw 41 rfl) (by decide) c131 pd12 [(.int (1 : Int32))] [(.int (1 : Int32)), (.ref b121)] rfl rfl rfl 2 (Nat.le_of_eq rfl) (payCh (W := 2) A127 hw (wd hw 6 rfl) c129 (by decide) O2 P5 O4 rG3 1 (Nat.le_of_ble_eq_true rfl) rfl (by decide) (by decide)) (kc := 0) (ks := 0) (by decide) (by decide) all0 (fun q => nomatch q) fun v130 T130 h130 L130 A130 K130 q130 => ?_
  obtain ⟨rfl, hh130⟩ := q130
  obtain rfl := hh130.symm
  show Wp pG e below _ T130 (mkF m 34 _ [(.int (108 : Int32)), (.int (1 : Int32)), (.ref b121)])
  refine f_castore A130 d5_34 (pc' := 35) rfl V127 ⟨by decide, by decide⟩ 1 (by decide) (Nat.le_of_ble_eq_true rfl) (108 : Int32) (by decide) (vs' := [(.int (97 : Int32)), (.int (108 : Int32)), (.int (0 : Int32)), (.int (0 : Int32)), (.int (0 : Int32))]) rfl (Nat.le_trans A0.sz bg121) (fun q => nomatch q) fun T132 h132 A132 K132 V132 => ?_
  have Q133 : Keep h0 h132 [] := Q128.trans K132 (allS (Or.inr (Nat.le_trans K0.1 bg121)) all0)
  refine f_iloadN A132 d5_35 (pc' := 36) rfl rfl ?_
  refine f_iconst A132 d5_36 (pc' := 37) rfl 2 rfl ?_
  refine f_icN A132 d5_37 (tlt (by decide : (2 : Int32) < (5 : Int32))).2.2.2 (pc' := 40) rfl ?_
  refine f_aloadN A132 d5_40 (pc' := 41) rfl rfl rfl ?_
  refine f_iconst A132 d5_41 (pc' := 42) rfl 2 rfl ?_
  refine f_aloadN A132 d5_42 (pc' := 43) rfl rfl rfl ?_
  refine f_iconst A132 d5_43 (pc' := 44) rfl 2 rfl ?_
  have c134 := (c129.keep K132 (ninS (Nat.ne_of_lt (Nat.lt_of_lt_of_le F.lt bg121)) nin0) (ninS (Nat.ne_of_lt (Nat.lt_of_lt_of_le F.lt' bg121)) nin0))
  have c136 := (c131.keep K132)
  refine f_callV A132 (a := x) d5_44 (pc' := 47) rfl (wd hw 39 rfl) (wd hw 40 rfl) (nfS A132 (wd hw 42 rfl)) (wd hw 42 rfl) (wd hw 41 rfl) (by decide) c136 pd12 [(.int (2 : Int32))] [(.int (2 : Int32)), (.ref b121)] rfl rfl rfl 2 (Nat.le_of_eq rfl) (payCh (W := 2) A132 hw (wd hw 6 rfl) c134 (by decide) O2 P5 O4 rG3 2 (Nat.le_of_ble_eq_true rfl) rfl (by decide) (by decide)) (kc := 0) (ks := 0) (by decide) (by decide) all0 (fun q => nomatch q) fun v135 T135 h135 L135 A135 K135 q135 => ?_
  obtain ⟨rfl, hh135⟩ := q135
  obtain rfl := hh135.symm
  show Wp pG e below _ T135 (mkF m 47 _ [(.int (108 : Int32)), (.int (2 : Int32)), (.ref b121)])
  refine f_castore A135 d5_47 (pc' := 48) rfl V132 ⟨by decide, by decide⟩ 2 (by decide) (Nat.le_of_ble_eq_true rfl) (108 : Int32) (by decide) (vs' := [(.int (97 : Int32)), (.int (108 : Int32)), (.int (108 : Int32)), (.int (0 : Int32)), (.int (0 : Int32))]) rfl (Nat.le_trans A0.sz bg121) (fun q => nomatch q) fun T137 h137 A137 K137 V137 => ?_
  have Q138 : Keep h0 h137 [] := Q133.trans K137 (allS (Or.inr (Nat.le_trans K0.1 bg121)) all0)
  refine f_iloadN A137 d5_48 (pc' := 49) rfl rfl ?_
  refine f_iconst A137 d5_49 (pc' := 50) rfl 3 rfl ?_
  refine f_icN A137 d5_50 (tlt (by decide : (3 : Int32) < (5 : Int32))).2.2.2 (pc' := 53) rfl ?_
  refine f_aloadN A137 d5_53 (pc' := 54) rfl rfl rfl ?_
  refine f_iconst A137 d5_54 (pc' := 55) rfl 3 rfl ?_
  refine f_aloadN A137 d5_55 (pc' := 56) rfl rfl rfl ?_
  refine f_iconst A137 d5_56 (pc' := 57) rfl 3 rfl ?_
  have c139 := (c134.keep K137 (ninS (Nat.ne_of_lt (Nat.lt_of_lt_of_le F.lt bg121)) nin0) (ninS (Nat.ne_of_lt (Nat.lt_of_lt_of_le F.lt' bg121)) nin0))
  have c141 := (c136.keep K137)
  refine f_callV A137 (a := x) d5_57 (pc' := 60) rfl (wd hw 39 rfl) (wd hw 40 rfl) (nfS A137 (wd hw 42 rfl)) (wd hw 42 rfl) (wd hw 41 rfl) (by decide) c141 pd12 [(.int (3 : Int32))] [(.int (3 : Int32)), (.ref b121)] rfl rfl rfl 2 (Nat.le_of_eq rfl) (payCh (W := 2) A137 hw (wd hw 6 rfl) c139 (by decide) O2 P5 O4 rG3 3 (Nat.le_of_ble_eq_true rfl) rfl (by decide) (by decide)) (kc := 0) (ks := 0) (by decide) (by decide) all0 (fun q => nomatch q) fun v140 T140 h140 L140 A140 K140 q140 => ?_
  obtain ⟨rfl, hh140⟩ := q140
  obtain rfl := hh140.symm
  show Wp pG e below _ T140 (mkF m 60 _ [(.int (111 : Int32)), (.int (3 : Int32)), (.ref b121)])
  refine f_castore A140 d5_60 (pc' := 61) rfl V137 ⟨by decide, by decide⟩ 3 (by decide) (Nat.le_of_ble_eq_true rfl) (111 : Int32) (by decide) (vs' := [(.int (97 : Int32)), (.int (108 : Int32)), (.int (108 : Int32)), (.int (111 : Int32)), (.int (0 : Int32))]) rfl (Nat.le_trans A0.sz bg121) (fun q => nomatch q) fun T142 h142 A142 K142 V142 => ?_
  have Q143 : Keep h0 h142 [] := Q138.trans K142 (allS (Or.inr (Nat.le_trans K0.1 bg121)) all0)
  refine f_iloadN A142 d5_61 (pc' := 62) rfl rfl ?_
  refine f_iconst A142 d5_62 (pc' := 63) rfl 4 rfl ?_
  refine f_icN A142 d5_63 (tlt (by decide : (4 : Int32) < (5 : Int32))).2.2.2 (pc' := 66) rfl ?_
  refine f_aloadN A142 d5_66 (pc' := 67) rfl rfl rfl ?_
  refine f_iconst A142 d5_67 (pc' := 68) rfl 4 rfl ?_
  refine f_aloadN A142 d5_68 (pc' := 69) rfl rfl rfl ?_
  refine f_iconst A142 d5_69 (pc' := 70) rfl 4 rfl ?_
  have c144 := (c139.keep K142 (ninS (Nat.ne_of_lt (Nat.lt_of_lt_of_le F.lt bg121)) nin0) (ninS (Nat.ne_of_lt (Nat.lt_of_lt_of_le F.lt' bg121)) nin0))
  have c146 := (c141.keep K142)
  refine f_callV A142 (a := x) d5_70 (pc' := 73) rfl (wd hw 39 rfl) (wd hw 40 rfl) (nfS A142 (wd hw 42 rfl)) (wd hw 42 rfl) (wd hw 41 rfl) (by decide) c146 pd12 [(.int (4 : Int32))] [(.int (4 : Int32)), (.ref b121)] rfl rfl rfl 2 (Nat.le_of_eq rfl) (payCh (W := 2) A142 hw (wd hw 6 rfl) c144 (by decide) O2 P5 O4 rG3 4 (Nat.le_of_ble_eq_true rfl) rfl (by decide) (by decide)) (kc := 0) (ks := 0) (by decide) (by decide) all0 (fun q => nomatch q) fun v145 T145 h145 L145 A145 K145 q145 => ?_
  obtain ⟨rfl, hh145⟩ := q145
  obtain rfl := hh145.symm
  show Wp pG e below _ T145 (mkF m 73 _ [(.int (119 : Int32)), (.int (4 : Int32)), (.ref b121)])
  refine f_castore A145 d5_73 (pc' := 74) rfl V142 ⟨by decide, by decide⟩ 4 (by decide) (Nat.le_of_ble_eq_true rfl) (119 : Int32) (by decide) (vs' := [(.int (97 : Int32)), (.int (108 : Int32)), (.int (108 : Int32)), (.int (111 : Int32)), (.int (119 : Int32))]) rfl (Nat.le_trans A0.sz bg121) (fun q => nomatch q) fun T147 h147 A147 K147 V147 => ?_
  have Q148 : Keep h0 h147 [] := Q143.trans K147 (allS (Or.inr (Nat.le_trans K0.1 bg121)) all0)
  refine f_aloadN A147 d5_74 (pc' := 75) rfl rfl rfl ?_
  exact f_retRN A147 hlk hret d5_75 rfl rfl (by decide) (by decide) Q148 ⟨b121, kA121, rfl, (Nat.le_trans K0.1 bg121), V147⟩
set_option maxRecDepth 65536 in
set_option maxHeartbeats 40000000 in
theorem m_ck01 (l : Launch) (Z : State) (a0 : Array Value) (hw : ∀ d ∈ tables_1, d.before a0 Z = true) (x t : Addr) (zc : Int32) (O2 : Sta Z Z.heap "java/lang/String" "COMPACT_STRINGS" "Z" (.int zc)) (P5 : ¬ zc = 0) (fm : Value) (O4 : Sta Z Z.heap "jdk/internal/util/Preconditions" "SIOOBE_FORMATTER" "Ljava/util/function/BiFunction;" fm) (rG3 : fm.isRef = true) (h0 : Heap) (n0 : Nat) (ho : Old Z n0 h0) (F : Str Z h0 x t [(97 : Int32), (108 : Int32), (108 : Int32), (111 : Int32), (119 : Int32)]) :
    CN l (⟨"com/example/confinement/confinement/policy/VerdictForKeywordPinLaw", "copyKw", "(Ljava/lang/String;I)[C"⟩ : MethodName) method_5_code 4 (some (.array .char)) [] ({ frames := 5, cells := 1, slots := 6, locals := 90 } : Room) Z n0 h0 #[(.ref x), (.int (6 : Int32))] [] (fun v h => ∃ (a : Addr) (kA : ClassId), v = some (.ref a) ∧ h0.size ≤ a ∧ Arv Z h a kA .char 6 [(.int (97 : Int32)), (.int (108 : Int32)), (.int (108 : Int32)), (.int (111 : Int32)), (.int (119 : Int32)), (.int (0 : Int32))] (.int 0)) := by
  refine CN.walk (plainFor_of_name pn3) ho (L0 := #[.val (.ref x), .val (.int (6 : Int32)), .unset, .unset]) (fun m => rfl) ?_
  intro pG e s m below meth cO T hlk hret hnm A0
  have K0 : Keep h0 h0 [] := Keep.refl _ _
  refine f_iloadN A0 d5_0 (pc' := 1) rfl rfl ?_
  refine f_callS A0 d5_1 (pc' := 4) rfl (wd hw 35 rfl) (wd hw 36 rfl) (wd hw 2 rfl) (wd hw 37 rfl) (by decide) pd10 [(.int (6 : Int32))] [] rfl rfl rfl 0 (Nat.le_of_eq rfl) (CN.pay (W := 0) A0 (m_al6 l Z a0 hw h0 n0 A0.old) (wd hw 37 rfl) (wd hw 2 rfl) (by decide) (by decide)) (kc := 1) (ks := 6) (by decide) (by decide) all0 (fun q => nomatch q) fun v149 T149 h149 L149 A149 K149 q149 => ?_
  have Q150 : Keep h0 h149 [] := K0.trans K149 all0
  obtain ⟨b149, kA149, rfl, bg149, V149⟩ := q149
  show Wp pG e below _ T149 (mkF m 4 _ [(.ref b149)])
  refine f_astoreN A149 d5_4 (pc' := 5) rfl rfl (L' := #[.val (.ref x), .val (.int (6 : Int32)), .val (.ref b149), .unset]) rfl ?_
  refine f_aloadN A149 d5_5 (pc' := 6) rfl rfl rfl ?_
  have c151 := (F.keep K149 nin0 nin0)
  have c153 := (F.exa.keep K149)
  refine f_callV A149 (a := x) d5_6 (pc' := 9) rfl (wd hw 18 rfl) (wd hw 19 rfl) (nfS A149 (wd hw 21 rfl)) (wd hw 21 rfl) (wd hw 20 rfl) (by decide) c153 pd11 [] [] rfl rfl rfl 0 (Nat.le_of_eq rfl) (payLen (W := 0) A149 hw (wd hw 6 rfl) c151 O2 P5 (by decide) (by decide)) (kc := 0) (ks := 0) (by decide) (by decide) all0 (fun q => nomatch q) fun v152 T152 h152 L152 A152 K152 q152 => ?_
  obtain ⟨rfl, hh152⟩ := q152
  obtain rfl := hh152.symm
  show Wp pG e below _ T152 (mkF m 9 _ [(.int (5 : Int32))])
  refine f_istoreN A152 d5_9 (pc' := 10) rfl (L' := #[.val (.ref x), .val (.int (6 : Int32)), .val (.ref b149), .val (.int (5 : Int32))]) rfl ?_
  refine f_iloadN A152 d5_10 (pc' := 11) rfl rfl ?_
  refine f_ifN A152 d5_11 ((if0 _ _).trans (tlt (by decide : (0 : Int32) < (5 : Int32))).2.2.2) (pc' := 14) rfl ?_
  refine f_aloadN A152 d5_14 (pc' := 15) rfl rfl rfl ?_
  refine f_iconst A152 d5_15 (pc' := 16) rfl 0 rfl ?_
  refine f_aloadN A152 d5_16 (pc' := 17) rfl rfl rfl ?_
  refine f_iconst A152 d5_17 (pc' := 18) rfl 0 rfl ?_
  refine f_callV A152 (a := x) d5_18 (pc' := 21) rfl (wd hw 39 rfl) (wd hw 40 rfl) (nfS A152 (wd hw 42 rfl)) (wd hw 42 rfl) (wd hw 41 rfl) (by decide) c153 pd12 [(.int (0 : Int32))] [(.int (0 : Int32)), (.ref b149)] rfl rfl rfl 2 (Nat.le_of_eq rfl) (payCh (W := 2) A152 hw (wd hw 6 rfl) c151 (by decide) O2 P5 O4 rG3 0 (Nat.le_of_ble_eq_true rfl) rfl (by decide) (by decide)) (kc := 0) (ks := 0) (by decide) (by decide) all0 (fun q => nomatch q) fun v154 T154 h154 L154 A154 K154 q154 => ?_
  obtain ⟨rfl, hh154⟩ := q154
  obtain rfl := hh154.symm
  show Wp pG e below _ T154 (mkF m 21 _ [(.int (97 : Int32)), (.int (0 : Int32)), (.ref b149)])
  refine f_castore A154 d5_21 (pc' := 22) rfl V149 ⟨by decide, by decide⟩ 0 (by decide) (Nat.le_of_ble_eq_true rfl) (97 : Int32) (by decide) (vs' := [(.int (97 : Int32)), (.int (0 : Int32)), (.int (0 : Int32)), (.int (0 : Int32)), (.int (0 : Int32)), (.int (0 : Int32))]) rfl (Nat.le_trans A0.sz bg149) (fun q => nomatch q) fun T155 h155 A155 K155 V155 => ?_
  have Q156 : Keep h0 h155 [] := Q150.trans K155 (allS (Or.inr (Nat.le_trans K0.1 bg149)) all0)
  refine f_iloadN A155 d5_22 (pc' := 23) rfl rfl ?_
  refine f_iconst A155 d5_23 (pc' := 24) rfl 1 rfl ?_
  refine f_icN A155 d5_24 (tlt (by decide : (1 : Int32) < (5 : Int32))).2.2.2 (pc' := 27) rfl ?_
  refine f_aloadN A155 d5_27 (pc' := 28) rfl rfl rfl ?_
  refine f_iconst A155 d5_28 (pc' := 29) rfl 1 rfl ?_
  refine f_aloadN A155 d5_29 (pc' := 30) rfl rfl rfl ?_
  refine f_iconst A155 d5_30 (pc' := 31) rfl 1 rfl ?_
  have c157 := (c151.keep K155 (ninS (Nat.ne_of_lt (Nat.lt_of_lt_of_le F.lt bg149)) nin0) (ninS (Nat.ne_of_lt (Nat.lt_of_lt_of_le F.lt' bg149)) nin0))
  have c159 := (c153.keep K155)
  refine f_callV A155 (a := x) d5_31 (pc' := 34) rfl (wd hw 39 rfl) (wd hw 40 rfl) (nfS A155 (wd hw 42 rfl)) (wd hw 42 rfl) (wd hw 41 rfl) (by decide) c159 pd12 [(.int (1 : Int32))] [(.int (1 : Int32)), (.ref b149)] rfl rfl rfl 2 (Nat.le_of_eq rfl) (payCh (W := 2) A155 hw (wd hw 6 rfl) c157 (by decide) O2 P5 O4 rG3 1 (Nat.le_of_ble_eq_true rfl) rfl (by decide) (by decide)) (kc := 0) (ks := 0) (by decide) (by decide) all0 (fun q => nomatch q) fun v158 T158 h158 L158 A158 K158 q158 => ?_
  obtain ⟨rfl, hh158⟩ := q158
  obtain rfl := hh158.symm
  show Wp pG e below _ T158 (mkF m 34 _ [(.int (108 : Int32)), (.int (1 : Int32)), (.ref b149)])
  refine f_castore A158 d5_34 (pc' := 35) rfl V155 ⟨by decide, by decide⟩ 1 (by decide) (Nat.le_of_ble_eq_true rfl) (108 : Int32) (by decide) (vs' := [(.int (97 : Int32)), (.int (108 : Int32)), (.int (0 : Int32)), (.int (0 : Int32)), (.int (0 : Int32)), (.int (0 : Int32))]) rfl (Nat.le_trans A0.sz bg149) (fun q => nomatch q) fun T160 h160 A160 K160 V160 => ?_
  have Q161 : Keep h0 h160 [] := Q156.trans K160 (allS (Or.inr (Nat.le_trans K0.1 bg149)) all0)
  refine f_iloadN A160 d5_35 (pc' := 36) rfl rfl ?_
  refine f_iconst A160 d5_36 (pc' := 37) rfl 2 rfl ?_
  refine f_icN A160 d5_37 (tlt (by decide : (2 : Int32) < (5 : Int32))).2.2.2 (pc' := 40) rfl ?_
  refine f_aloadN A160 d5_40 (pc' := 41) rfl rfl rfl ?_
  refine f_iconst A160 d5_41 (pc' := 42) rfl 2 rfl ?_
  refine f_aloadN A160 d5_42 (pc' := 43) rfl rfl rfl ?_
  refine f_iconst A160 d5_43 (pc' := 44) rfl 2 rfl ?_
  have c162 := (c157.keep K160 (ninS (Nat.ne_of_lt (Nat.lt_of_lt_of_le F.lt bg149)) nin0) (ninS (Nat.ne_of_lt (Nat.lt_of_lt_of_le F.lt' bg149)) nin0))
  have c164 := (c159.keep K160)
  refine f_callV A160 (a := x) d5_44 (pc' := 47) rfl (wd hw 39 rfl) (wd hw 40 rfl) (nfS A160 (wd hw 42 rfl)) (wd hw 42 rfl) (wd hw 41 rfl) (by decide) c164 pd12 [(.int (2 : Int32))] [(.int (2 : Int32)), (.ref b149)] rfl rfl rfl 2 (Nat.le_of_eq rfl) (payCh (W := 2) A160 hw (wd hw 6 rfl) c162 (by decide) O2 P5 O4 rG3 2 (Nat.le_of_ble_eq_true rfl) rfl (by decide) (by decide)) (kc := 0) (ks := 0) (by decide) (by decide) all0 (fun q => nomatch q) fun v163 T163 h163 L163 A163 K163 q163 => ?_
  obtain ⟨rfl, hh163⟩ := q163
  obtain rfl := hh163.symm
  show Wp pG e below _ T163 (mkF m 47 _ [(.int (108 : Int32)), (.int (2 : Int32)), (.ref b149)])
  refine f_castore A163 d5_47 (pc' := 48) rfl V160 ⟨by decide, by decide⟩ 2 (by decide) (Nat.le_of_ble_eq_true rfl) (108 : Int32) (by decide) (vs' := [(.int (97 : Int32)), (.int (108 : Int32)), (.int (108 : Int32)), (.int (0 : Int32)), (.int (0 : Int32)), (.int (0 : Int32))]) rfl (Nat.le_trans A0.sz bg149) (fun q => nomatch q) fun T165 h165 A165 K165 V165 => ?_
  have Q166 : Keep h0 h165 [] := Q161.trans K165 (allS (Or.inr (Nat.le_trans K0.1 bg149)) all0)
  refine f_iloadN A165 d5_48 (pc' := 49) rfl rfl ?_
  refine f_iconst A165 d5_49 (pc' := 50) rfl 3 rfl ?_
  refine f_icN A165 d5_50 (tlt (by decide : (3 : Int32) < (5 : Int32))).2.2.2 (pc' := 53) rfl ?_
  refine f_aloadN A165 d5_53 (pc' := 54) rfl rfl rfl ?_
  refine f_iconst A165 d5_54 (pc' := 55) rfl 3 rfl ?_
  refine f_aloadN A165 d5_55 (pc' := 56) rfl rfl rfl ?_
  refine f_iconst A165 d5_56 (pc' := 57) rfl 3 rfl ?_
  have c167 := (c162.keep K165 (ninS (Nat.ne_of_lt (Nat.lt_of_lt_of_le F.lt bg149)) nin0) (ninS (Nat.ne_of_lt (Nat.lt_of_lt_of_le F.lt' bg149)) nin0))
  have c169 := (c164.keep K165)
  refine f_callV A165 (a := x) d5_57 (pc' := 60) rfl (wd hw 39 rfl) (wd hw 40 rfl) (nfS A165 (wd hw 42 rfl)) (wd hw 42 rfl) (wd hw 41 rfl) (by decide) c169 pd12 [(.int (3 : Int32))] [(.int (3 : Int32)), (.ref b149)] rfl rfl rfl 2 (Nat.le_of_eq rfl) (payCh (W := 2) A165 hw (wd hw 6 rfl) c167 (by decide) O2 P5 O4 rG3 3 (Nat.le_of_ble_eq_true rfl) rfl (by decide) (by decide)) (kc := 0) (ks := 0) (by decide) (by decide) all0 (fun q => nomatch q) fun v168 T168 h168 L168 A168 K168 q168 => ?_
  obtain ⟨rfl, hh168⟩ := q168
  obtain rfl := hh168.symm
  show Wp pG e below _ T168 (mkF m 60 _ [(.int (111 : Int32)), (.int (3 : Int32)), (.ref b149)])
  refine f_castore A168 d5_60 (pc' := 61) rfl V165 ⟨by decide, by decide⟩ 3 (by decide) (Nat.le_of_ble_eq_true rfl) (111 : Int32) (by decide) (vs' := [(.int (97 : Int32)), (.int (108 : Int32)), (.int (108 : Int32)), (.int (111 : Int32)), (.int (0 : Int32)), (.int (0 : Int32))]) rfl (Nat.le_trans A0.sz bg149) (fun q => nomatch q) fun T170 h170 A170 K170 V170 => ?_
  have Q171 : Keep h0 h170 [] := Q166.trans K170 (allS (Or.inr (Nat.le_trans K0.1 bg149)) all0)
  refine f_iloadN A170 d5_61 (pc' := 62) rfl rfl ?_
  refine f_iconst A170 d5_62 (pc' := 63) rfl 4 rfl ?_
  refine f_icN A170 d5_63 (tlt (by decide : (4 : Int32) < (5 : Int32))).2.2.2 (pc' := 66) rfl ?_
  refine f_aloadN A170 d5_66 (pc' := 67) rfl rfl rfl ?_
  refine f_iconst A170 d5_67 (pc' := 68) rfl 4 rfl ?_
  refine f_aloadN A170 d5_68 (pc' := 69) rfl rfl rfl ?_
  refine f_iconst A170 d5_69 (pc' := 70) rfl 4 rfl ?_
  have c172 := (c167.keep K170 (ninS (Nat.ne_of_lt (Nat.lt_of_lt_of_le F.lt bg149)) nin0) (ninS (Nat.ne_of_lt (Nat.lt_of_lt_of_le F.lt' bg149)) nin0))
  have c174 := (c169.keep K170)
  refine f_callV A170 (a := x) d5_70 (pc' := 73) rfl (wd hw 39 rfl) (wd hw 40 rfl) (nfS A170 (wd hw 42 rfl)) (wd hw 42 rfl) (wd hw 41 rfl) (by decide) c174 pd12 [(.int (4 : Int32))] [(.int (4 : Int32)), (.ref b149)] rfl rfl rfl 2 (Nat.le_of_eq rfl) (payCh (W := 2) A170 hw (wd hw 6 rfl) c172 (by decide) O2 P5 O4 rG3 4 (Nat.le_of_ble_eq_true rfl) rfl (by decide) (by decide)) (kc := 0) (ks := 0) (by decide) (by decide) all0 (fun q => nomatch q) fun v173 T173 h173 L173 A173 K173 q173 => ?_
  obtain ⟨rfl, hh173⟩ := q173
  obtain rfl := hh173.symm
  show Wp pG e below _ T173 (mkF m 73 _ [(.int (119 : Int32)), (.int (4 : Int32)), (.ref b149)])
  refine f_castore A173 d5_73 (pc' := 74) rfl V170 ⟨by decide, by decide⟩ 4 (by decide) (Nat.le_of_ble_eq_true rfl) (119 : Int32) (by decide) (vs' := [(.int (97 : Int32)), (.int (108 : Int32)), (.int (108 : Int32)), (.int (111 : Int32)), (.int (119 : Int32)), (.int (0 : Int32))]) rfl (Nat.le_trans A0.sz bg149) (fun q => nomatch q) fun T175 h175 A175 K175 V175 => ?_
  have Q176 : Keep h0 h175 [] := Q171.trans K175 (allS (Or.inr (Nat.le_trans K0.1 bg149)) all0)
  refine f_aloadN A175 d5_74 (pc' := 75) rfl rfl rfl ?_
  exact f_retRN A175 hlk hret d5_75 rfl rfl (by decide) (by decide) Q176 ⟨b149, kA149, rfl, (Nat.le_trans K0.1 bg149), V175⟩
set_option maxRecDepth 65536 in
set_option maxHeartbeats 40000000 in
theorem m_ck10 (l : Launch) (Z : State) (a0 : Array Value) (hw : ∀ d ∈ tables_1, d.before a0 Z = true) (x t : Addr) (zc : Int32) (O2 : Sta Z Z.heap "java/lang/String" "COMPACT_STRINGS" "Z" (.int zc)) (P5 : ¬ zc = 0) (fm : Value) (O4 : Sta Z Z.heap "jdk/internal/util/Preconditions" "SIOOBE_FORMATTER" "Ljava/util/function/BiFunction;" fm) (rG3 : fm.isRef = true) (h0 : Heap) (n0 : Nat) (ho : Old Z n0 h0) (F : Str Z h0 x t [(100 : Int32), (101 : Int32), (110 : Int32), (121 : Int32)]) :
    CN l (⟨"com/example/confinement/confinement/policy/VerdictForKeywordPinLaw", "copyKw", "(Ljava/lang/String;I)[C"⟩ : MethodName) method_5_code 4 (some (.array .char)) [] ({ frames := 5, cells := 1, slots := 4, locals := 90 } : Room) Z n0 h0 #[(.ref x), (.int (4 : Int32))] [] (fun v h => ∃ (a : Addr) (kA : ClassId), v = some (.ref a) ∧ h0.size ≤ a ∧ Arv Z h a kA .char 4 [(.int (100 : Int32)), (.int (101 : Int32)), (.int (110 : Int32)), (.int (121 : Int32))] (.int 0)) := by
  refine CN.walk (plainFor_of_name pn3) ho (L0 := #[.val (.ref x), .val (.int (4 : Int32)), .unset, .unset]) (fun m => rfl) ?_
  intro pG e s m below meth cO T hlk hret hnm A0
  have K0 : Keep h0 h0 [] := Keep.refl _ _
  refine f_iloadN A0 d5_0 (pc' := 1) rfl rfl ?_
  refine f_callS A0 d5_1 (pc' := 4) rfl (wd hw 35 rfl) (wd hw 36 rfl) (wd hw 2 rfl) (wd hw 37 rfl) (by decide) pd10 [(.int (4 : Int32))] [] rfl rfl rfl 0 (Nat.le_of_eq rfl) (CN.pay (W := 0) A0 (m_al4 l Z a0 hw h0 n0 A0.old) (wd hw 37 rfl) (wd hw 2 rfl) (by decide) (by decide)) (kc := 1) (ks := 4) (by decide) (by decide) all0 (fun q => nomatch q) fun v177 T177 h177 L177 A177 K177 q177 => ?_
  have Q178 : Keep h0 h177 [] := K0.trans K177 all0
  obtain ⟨b177, kA177, rfl, bg177, V177⟩ := q177
  show Wp pG e below _ T177 (mkF m 4 _ [(.ref b177)])
  refine f_astoreN A177 d5_4 (pc' := 5) rfl rfl (L' := #[.val (.ref x), .val (.int (4 : Int32)), .val (.ref b177), .unset]) rfl ?_
  refine f_aloadN A177 d5_5 (pc' := 6) rfl rfl rfl ?_
  have c179 := (F.keep K177 nin0 nin0)
  have c181 := (F.exa.keep K177)
  refine f_callV A177 (a := x) d5_6 (pc' := 9) rfl (wd hw 18 rfl) (wd hw 19 rfl) (nfS A177 (wd hw 21 rfl)) (wd hw 21 rfl) (wd hw 20 rfl) (by decide) c181 pd11 [] [] rfl rfl rfl 0 (Nat.le_of_eq rfl) (payLen (W := 0) A177 hw (wd hw 6 rfl) c179 O2 P5 (by decide) (by decide)) (kc := 0) (ks := 0) (by decide) (by decide) all0 (fun q => nomatch q) fun v180 T180 h180 L180 A180 K180 q180 => ?_
  obtain ⟨rfl, hh180⟩ := q180
  obtain rfl := hh180.symm
  show Wp pG e below _ T180 (mkF m 9 _ [(.int (4 : Int32))])
  refine f_istoreN A180 d5_9 (pc' := 10) rfl (L' := #[.val (.ref x), .val (.int (4 : Int32)), .val (.ref b177), .val (.int (4 : Int32))]) rfl ?_
  refine f_iloadN A180 d5_10 (pc' := 11) rfl rfl ?_
  refine f_ifN A180 d5_11 ((if0 _ _).trans (tlt (by decide : (0 : Int32) < (4 : Int32))).2.2.2) (pc' := 14) rfl ?_
  refine f_aloadN A180 d5_14 (pc' := 15) rfl rfl rfl ?_
  refine f_iconst A180 d5_15 (pc' := 16) rfl 0 rfl ?_
  refine f_aloadN A180 d5_16 (pc' := 17) rfl rfl rfl ?_
  refine f_iconst A180 d5_17 (pc' := 18) rfl 0 rfl ?_
  refine f_callV A180 (a := x) d5_18 (pc' := 21) rfl (wd hw 39 rfl) (wd hw 40 rfl) (nfS A180 (wd hw 42 rfl)) (wd hw 42 rfl) (wd hw 41 rfl) (by decide) c181 pd12 [(.int (0 : Int32))] [(.int (0 : Int32)), (.ref b177)] rfl rfl rfl 2 (Nat.le_of_eq rfl) (payCh (W := 2) A180 hw (wd hw 6 rfl) c179 (by decide) O2 P5 O4 rG3 0 (Nat.le_of_ble_eq_true rfl) rfl (by decide) (by decide)) (kc := 0) (ks := 0) (by decide) (by decide) all0 (fun q => nomatch q) fun v182 T182 h182 L182 A182 K182 q182 => ?_
  obtain ⟨rfl, hh182⟩ := q182
  obtain rfl := hh182.symm
  show Wp pG e below _ T182 (mkF m 21 _ [(.int (100 : Int32)), (.int (0 : Int32)), (.ref b177)])
  refine f_castore A182 d5_21 (pc' := 22) rfl V177 ⟨by decide, by decide⟩ 0 (by decide) (Nat.le_of_ble_eq_true rfl) (100 : Int32) (by decide) (vs' := [(.int (100 : Int32)), (.int (0 : Int32)), (.int (0 : Int32)), (.int (0 : Int32))]) rfl (Nat.le_trans A0.sz bg177) (fun q => nomatch q) fun T183 h183 A183 K183 V183 => ?_
  have Q184 : Keep h0 h183 [] := Q178.trans K183 (allS (Or.inr (Nat.le_trans K0.1 bg177)) all0)
  refine f_iloadN A183 d5_22 (pc' := 23) rfl rfl ?_
  refine f_iconst A183 d5_23 (pc' := 24) rfl 1 rfl ?_
  refine f_icN A183 d5_24 (tlt (by decide : (1 : Int32) < (4 : Int32))).2.2.2 (pc' := 27) rfl ?_
  refine f_aloadN A183 d5_27 (pc' := 28) rfl rfl rfl ?_
  refine f_iconst A183 d5_28 (pc' := 29) rfl 1 rfl ?_
  refine f_aloadN A183 d5_29 (pc' := 30) rfl rfl rfl ?_
  refine f_iconst A183 d5_30 (pc' := 31) rfl 1 rfl ?_
  have c185 := (c179.keep K183 (ninS (Nat.ne_of_lt (Nat.lt_of_lt_of_le F.lt bg177)) nin0) (ninS (Nat.ne_of_lt (Nat.lt_of_lt_of_le F.lt' bg177)) nin0))
  have c187 := (c181.keep K183)
  refine f_callV A183 (a := x) d5_31 (pc' := 34) rfl (wd hw 39 rfl) (wd hw 40 rfl) (nfS A183 (wd hw 42 rfl)) (wd hw 42 rfl) (wd hw 41 rfl) (by decide) c187 pd12 [(.int (1 : Int32))] [(.int (1 : Int32)), (.ref b177)] rfl rfl rfl 2 (Nat.le_of_eq rfl) (payCh (W := 2) A183 hw (wd hw 6 rfl) c185 (by decide) O2 P5 O4 rG3 1 (Nat.le_of_ble_eq_true rfl) rfl (by decide) (by decide)) (kc := 0) (ks := 0) (by decide) (by decide) all0 (fun q => nomatch q) fun v186 T186 h186 L186 A186 K186 q186 => ?_
  obtain ⟨rfl, hh186⟩ := q186
  obtain rfl := hh186.symm
  show Wp pG e below _ T186 (mkF m 34 _ [(.int (101 : Int32)), (.int (1 : Int32)), (.ref b177)])
  refine f_castore A186 d5_34 (pc' := 35) rfl V183 ⟨by decide, by decide⟩ 1 (by decide) (Nat.le_of_ble_eq_true rfl) (101 : Int32) (by decide) (vs' := [(.int (100 : Int32)), (.int (101 : Int32)), (.int (0 : Int32)), (.int (0 : Int32))]) rfl (Nat.le_trans A0.sz bg177) (fun q => nomatch q) fun T188 h188 A188 K188 V188 => ?_
  have Q189 : Keep h0 h188 [] := Q184.trans K188 (allS (Or.inr (Nat.le_trans K0.1 bg177)) all0)
  refine f_iloadN A188 d5_35 (pc' := 36) rfl rfl ?_
  refine f_iconst A188 d5_36 (pc' := 37) rfl 2 rfl ?_
  refine f_icN A188 d5_37 (tlt (by decide : (2 : Int32) < (4 : Int32))).2.2.2 (pc' := 40) rfl ?_
  refine f_aloadN A188 d5_40 (pc' := 41) rfl rfl rfl ?_
  refine f_iconst A188 d5_41 (pc' := 42) rfl 2 rfl ?_
  refine f_aloadN A188 d5_42 (pc' := 43) rfl rfl rfl ?_
  refine f_iconst A188 d5_43 (pc' := 44) rfl 2 rfl ?_
  have c190 := (c185.keep K188 (ninS (Nat.ne_of_lt (Nat.lt_of_lt_of_le F.lt bg177)) nin0) (ninS (Nat.ne_of_lt (Nat.lt_of_lt_of_le F.lt' bg177)) nin0))
  have c192 := (c187.keep K188)
  refine f_callV A188 (a := x) d5_44 (pc' := 47) rfl (wd hw 39 rfl) (wd hw 40 rfl) (nfS A188 (wd hw 42 rfl)) (wd hw 42 rfl) (wd hw 41 rfl) (by decide) c192 pd12 [(.int (2 : Int32))] [(.int (2 : Int32)), (.ref b177)] rfl rfl rfl 2 (Nat.le_of_eq rfl) (payCh (W := 2) A188 hw (wd hw 6 rfl) c190 (by decide) O2 P5 O4 rG3 2 (Nat.le_of_ble_eq_true rfl) rfl (by decide) (by decide)) (kc := 0) (ks := 0) (by decide) (by decide) all0 (fun q => nomatch q) fun v191 T191 h191 L191 A191 K191 q191 => ?_
  obtain ⟨rfl, hh191⟩ := q191
  obtain rfl := hh191.symm
  show Wp pG e below _ T191 (mkF m 47 _ [(.int (110 : Int32)), (.int (2 : Int32)), (.ref b177)])
  refine f_castore A191 d5_47 (pc' := 48) rfl V188 ⟨by decide, by decide⟩ 2 (by decide) (Nat.le_of_ble_eq_true rfl) (110 : Int32) (by decide) (vs' := [(.int (100 : Int32)), (.int (101 : Int32)), (.int (110 : Int32)), (.int (0 : Int32))]) rfl (Nat.le_trans A0.sz bg177) (fun q => nomatch q) fun T193 h193 A193 K193 V193 => ?_
  have Q194 : Keep h0 h193 [] := Q189.trans K193 (allS (Or.inr (Nat.le_trans K0.1 bg177)) all0)
  refine f_iloadN A193 d5_48 (pc' := 49) rfl rfl ?_
  refine f_iconst A193 d5_49 (pc' := 50) rfl 3 rfl ?_
  refine f_icN A193 d5_50 (tlt (by decide : (3 : Int32) < (4 : Int32))).2.2.2 (pc' := 53) rfl ?_
  refine f_aloadN A193 d5_53 (pc' := 54) rfl rfl rfl ?_
  refine f_iconst A193 d5_54 (pc' := 55) rfl 3 rfl ?_
  refine f_aloadN A193 d5_55 (pc' := 56) rfl rfl rfl ?_
  refine f_iconst A193 d5_56 (pc' := 57) rfl 3 rfl ?_
  have c195 := (c190.keep K193 (ninS (Nat.ne_of_lt (Nat.lt_of_lt_of_le F.lt bg177)) nin0) (ninS (Nat.ne_of_lt (Nat.lt_of_lt_of_le F.lt' bg177)) nin0))
  have c197 := (c192.keep K193)
  refine f_callV A193 (a := x) d5_57 (pc' := 60) rfl (wd hw 39 rfl) (wd hw 40 rfl) (nfS A193 (wd hw 42 rfl)) (wd hw 42 rfl) (wd hw 41 rfl) (by decide) c197 pd12 [(.int (3 : Int32))] [(.int (3 : Int32)), (.ref b177)] rfl rfl rfl 2 (Nat.le_of_eq rfl) (payCh (W := 2) A193 hw (wd hw 6 rfl) c195 (by decide) O2 P5 O4 rG3 3 (Nat.le_of_ble_eq_true rfl) rfl (by decide) (by decide)) (kc := 0) (ks := 0) (by decide) (by decide) all0 (fun q => nomatch q) fun v196 T196 h196 L196 A196 K196 q196 => ?_
  obtain ⟨rfl, hh196⟩ := q196
  obtain rfl := hh196.symm
  show Wp pG e below _ T196 (mkF m 60 _ [(.int (121 : Int32)), (.int (3 : Int32)), (.ref b177)])
  refine f_castore A196 d5_60 (pc' := 61) rfl V193 ⟨by decide, by decide⟩ 3 (by decide) (Nat.le_of_ble_eq_true rfl) (121 : Int32) (by decide) (vs' := [(.int (100 : Int32)), (.int (101 : Int32)), (.int (110 : Int32)), (.int (121 : Int32))]) rfl (Nat.le_trans A0.sz bg177) (fun q => nomatch q) fun T198 h198 A198 K198 V198 => ?_
  have Q199 : Keep h0 h198 [] := Q194.trans K198 (allS (Or.inr (Nat.le_trans K0.1 bg177)) all0)
  refine f_iloadN A198 d5_61 (pc' := 62) rfl rfl ?_
  refine f_iconst A198 d5_62 (pc' := 63) rfl 4 rfl ?_
  refine f_icY A198 d5_63 (flt (by decide : ¬ (4 : Int32) < (4 : Int32))).2.2.2 (pc' := 74) (by decide) (by decide) ?_
  refine f_aloadN A198 d5_74 (pc' := 75) rfl rfl rfl ?_
  exact f_retRN A198 hlk hret d5_75 rfl rfl (by decide) (by decide) Q199 ⟨b177, kA177, rfl, (Nat.le_trans K0.1 bg177), V198⟩
set_option maxRecDepth 65536 in
set_option maxHeartbeats 40000000 in
theorem m_ck11 (l : Launch) (Z : State) (a0 : Array Value) (hw : ∀ d ∈ tables_1, d.before a0 Z = true) (x t : Addr) (zc : Int32) (O2 : Sta Z Z.heap "java/lang/String" "COMPACT_STRINGS" "Z" (.int zc)) (P5 : ¬ zc = 0) (fm : Value) (O4 : Sta Z Z.heap "jdk/internal/util/Preconditions" "SIOOBE_FORMATTER" "Ljava/util/function/BiFunction;" fm) (rG3 : fm.isRef = true) (h0 : Heap) (n0 : Nat) (ho : Old Z n0 h0) (F : Str Z h0 x t [(100 : Int32), (101 : Int32), (110 : Int32), (121 : Int32)]) :
    CN l (⟨"com/example/confinement/confinement/policy/VerdictForKeywordPinLaw", "copyKw", "(Ljava/lang/String;I)[C"⟩ : MethodName) method_5_code 4 (some (.array .char)) [] ({ frames := 5, cells := 1, slots := 5, locals := 90 } : Room) Z n0 h0 #[(.ref x), (.int (5 : Int32))] [] (fun v h => ∃ (a : Addr) (kA : ClassId), v = some (.ref a) ∧ h0.size ≤ a ∧ Arv Z h a kA .char 5 [(.int (100 : Int32)), (.int (101 : Int32)), (.int (110 : Int32)), (.int (121 : Int32)), (.int (0 : Int32))] (.int 0)) := by
  refine CN.walk (plainFor_of_name pn3) ho (L0 := #[.val (.ref x), .val (.int (5 : Int32)), .unset, .unset]) (fun m => rfl) ?_
  intro pG e s m below meth cO T hlk hret hnm A0
  have K0 : Keep h0 h0 [] := Keep.refl _ _
  refine f_iloadN A0 d5_0 (pc' := 1) rfl rfl ?_
  refine f_callS A0 d5_1 (pc' := 4) rfl (wd hw 35 rfl) (wd hw 36 rfl) (wd hw 2 rfl) (wd hw 37 rfl) (by decide) pd10 [(.int (5 : Int32))] [] rfl rfl rfl 0 (Nat.le_of_eq rfl) (CN.pay (W := 0) A0 (m_al5 l Z a0 hw h0 n0 A0.old) (wd hw 37 rfl) (wd hw 2 rfl) (by decide) (by decide)) (kc := 1) (ks := 5) (by decide) (by decide) all0 (fun q => nomatch q) fun v200 T200 h200 L200 A200 K200 q200 => ?_
  have Q201 : Keep h0 h200 [] := K0.trans K200 all0
  obtain ⟨b200, kA200, rfl, bg200, V200⟩ := q200
  show Wp pG e below _ T200 (mkF m 4 _ [(.ref b200)])
  refine f_astoreN A200 d5_4 (pc' := 5) rfl rfl (L' := #[.val (.ref x), .val (.int (5 : Int32)), .val (.ref b200), .unset]) rfl ?_
  refine f_aloadN A200 d5_5 (pc' := 6) rfl rfl rfl ?_
  have c202 := (F.keep K200 nin0 nin0)
  have c204 := (F.exa.keep K200)
  refine f_callV A200 (a := x) d5_6 (pc' := 9) rfl (wd hw 18 rfl) (wd hw 19 rfl) (nfS A200 (wd hw 21 rfl)) (wd hw 21 rfl) (wd hw 20 rfl) (by decide) c204 pd11 [] [] rfl rfl rfl 0 (Nat.le_of_eq rfl) (payLen (W := 0) A200 hw (wd hw 6 rfl) c202 O2 P5 (by decide) (by decide)) (kc := 0) (ks := 0) (by decide) (by decide) all0 (fun q => nomatch q) fun v203 T203 h203 L203 A203 K203 q203 => ?_
  obtain ⟨rfl, hh203⟩ := q203
  obtain rfl := hh203.symm
  show Wp pG e below _ T203 (mkF m 9 _ [(.int (4 : Int32))])
  refine f_istoreN A203 d5_9 (pc' := 10) rfl (L' := #[.val (.ref x), .val (.int (5 : Int32)), .val (.ref b200), .val (.int (4 : Int32))]) rfl ?_
  refine f_iloadN A203 d5_10 (pc' := 11) rfl rfl ?_
  refine f_ifN A203 d5_11 ((if0 _ _).trans (tlt (by decide : (0 : Int32) < (4 : Int32))).2.2.2) (pc' := 14) rfl ?_
  refine f_aloadN A203 d5_14 (pc' := 15) rfl rfl rfl ?_
  refine f_iconst A203 d5_15 (pc' := 16) rfl 0 rfl ?_
  refine f_aloadN A203 d5_16 (pc' := 17) rfl rfl rfl ?_
  refine f_iconst A203 d5_17 (pc' := 18) rfl 0 rfl ?_
  refine f_callV A203 (a := x) d5_18 (pc' := 21) rfl (wd hw 39 rfl) (wd hw 40 rfl) (nfS A203 (wd hw 42 rfl)) (wd hw 42 rfl) (wd hw 41 rfl) (by decide) c204 pd12 [(.int (0 : Int32))] [(.int (0 : Int32)), (.ref b200)] rfl rfl rfl 2 (Nat.le_of_eq rfl) (payCh (W := 2) A203 hw (wd hw 6 rfl) c202 (by decide) O2 P5 O4 rG3 0 (Nat.le_of_ble_eq_true rfl) rfl (by decide) (by decide)) (kc := 0) (ks := 0) (by decide) (by decide) all0 (fun q => nomatch q) fun v205 T205 h205 L205 A205 K205 q205 => ?_
  obtain ⟨rfl, hh205⟩ := q205
  obtain rfl := hh205.symm
  show Wp pG e below _ T205 (mkF m 21 _ [(.int (100 : Int32)), (.int (0 : Int32)), (.ref b200)])
  refine f_castore A205 d5_21 (pc' := 22) rfl V200 ⟨by decide, by decide⟩ 0 (by decide) (Nat.le_of_ble_eq_true rfl) (100 : Int32) (by decide) (vs' := [(.int (100 : Int32)), (.int (0 : Int32)), (.int (0 : Int32)), (.int (0 : Int32)), (.int (0 : Int32))]) rfl (Nat.le_trans A0.sz bg200) (fun q => nomatch q) fun T206 h206 A206 K206 V206 => ?_
  have Q207 : Keep h0 h206 [] := Q201.trans K206 (allS (Or.inr (Nat.le_trans K0.1 bg200)) all0)
  refine f_iloadN A206 d5_22 (pc' := 23) rfl rfl ?_
  refine f_iconst A206 d5_23 (pc' := 24) rfl 1 rfl ?_
  refine f_icN A206 d5_24 (tlt (by decide : (1 : Int32) < (4 : Int32))).2.2.2 (pc' := 27) rfl ?_
  refine f_aloadN A206 d5_27 (pc' := 28) rfl rfl rfl ?_
  refine f_iconst A206 d5_28 (pc' := 29) rfl 1 rfl ?_
  refine f_aloadN A206 d5_29 (pc' := 30) rfl rfl rfl ?_
  refine f_iconst A206 d5_30 (pc' := 31) rfl 1 rfl ?_
  have c208 := (c202.keep K206 (ninS (Nat.ne_of_lt (Nat.lt_of_lt_of_le F.lt bg200)) nin0) (ninS (Nat.ne_of_lt (Nat.lt_of_lt_of_le F.lt' bg200)) nin0))
  have c210 := (c204.keep K206)
  refine f_callV A206 (a := x) d5_31 (pc' := 34) rfl (wd hw 39 rfl) (wd hw 40 rfl) (nfS A206 (wd hw 42 rfl)) (wd hw 42 rfl) (wd hw 41 rfl) (by decide) c210 pd12 [(.int (1 : Int32))] [(.int (1 : Int32)), (.ref b200)] rfl rfl rfl 2 (Nat.le_of_eq rfl) (payCh (W := 2) A206 hw (wd hw 6 rfl) c208 (by decide) O2 P5 O4 rG3 1 (Nat.le_of_ble_eq_true rfl) rfl (by decide) (by decide)) (kc := 0) (ks := 0) (by decide) (by decide) all0 (fun q => nomatch q) fun v209 T209 h209 L209 A209 K209 q209 => ?_
  obtain ⟨rfl, hh209⟩ := q209
  obtain rfl := hh209.symm
  show Wp pG e below _ T209 (mkF m 34 _ [(.int (101 : Int32)), (.int (1 : Int32)), (.ref b200)])
  refine f_castore A209 d5_34 (pc' := 35) rfl V206 ⟨by decide, by decide⟩ 1 (by decide) (Nat.le_of_ble_eq_true rfl) (101 : Int32) (by decide) (vs' := [(.int (100 : Int32)), (.int (101 : Int32)), (.int (0 : Int32)), (.int (0 : Int32)), (.int (0 : Int32))]) rfl (Nat.le_trans A0.sz bg200) (fun q => nomatch q) fun T211 h211 A211 K211 V211 => ?_
  have Q212 : Keep h0 h211 [] := Q207.trans K211 (allS (Or.inr (Nat.le_trans K0.1 bg200)) all0)
  refine f_iloadN A211 d5_35 (pc' := 36) rfl rfl ?_
  refine f_iconst A211 d5_36 (pc' := 37) rfl 2 rfl ?_
  refine f_icN A211 d5_37 (tlt (by decide : (2 : Int32) < (4 : Int32))).2.2.2 (pc' := 40) rfl ?_
  refine f_aloadN A211 d5_40 (pc' := 41) rfl rfl rfl ?_
  refine f_iconst A211 d5_41 (pc' := 42) rfl 2 rfl ?_
  refine f_aloadN A211 d5_42 (pc' := 43) rfl rfl rfl ?_
  refine f_iconst A211 d5_43 (pc' := 44) rfl 2 rfl ?_
  have c213 := (c208.keep K211 (ninS (Nat.ne_of_lt (Nat.lt_of_lt_of_le F.lt bg200)) nin0) (ninS (Nat.ne_of_lt (Nat.lt_of_lt_of_le F.lt' bg200)) nin0))
  have c215 := (c210.keep K211)
  refine f_callV A211 (a := x) d5_44 (pc' := 47) rfl (wd hw 39 rfl) (wd hw 40 rfl) (nfS A211 (wd hw 42 rfl)) (wd hw 42 rfl) (wd hw 41 rfl) (by decide) c215 pd12 [(.int (2 : Int32))] [(.int (2 : Int32)), (.ref b200)] rfl rfl rfl 2 (Nat.le_of_eq rfl) (payCh (W := 2) A211 hw (wd hw 6 rfl) c213 (by decide) O2 P5 O4 rG3 2 (Nat.le_of_ble_eq_true rfl) rfl (by decide) (by decide)) (kc := 0) (ks := 0) (by decide) (by decide) all0 (fun q => nomatch q) fun v214 T214 h214 L214 A214 K214 q214 => ?_
  obtain ⟨rfl, hh214⟩ := q214
  obtain rfl := hh214.symm
  show Wp pG e below _ T214 (mkF m 47 _ [(.int (110 : Int32)), (.int (2 : Int32)), (.ref b200)])
  refine f_castore A214 d5_47 (pc' := 48) rfl V211 ⟨by decide, by decide⟩ 2 (by decide) (Nat.le_of_ble_eq_true rfl) (110 : Int32) (by decide) (vs' := [(.int (100 : Int32)), (.int (101 : Int32)), (.int (110 : Int32)), (.int (0 : Int32)), (.int (0 : Int32))]) rfl (Nat.le_trans A0.sz bg200) (fun q => nomatch q) fun T216 h216 A216 K216 V216 => ?_
  have Q217 : Keep h0 h216 [] := Q212.trans K216 (allS (Or.inr (Nat.le_trans K0.1 bg200)) all0)
  refine f_iloadN A216 d5_48 (pc' := 49) rfl rfl ?_
  refine f_iconst A216 d5_49 (pc' := 50) rfl 3 rfl ?_
  refine f_icN A216 d5_50 (tlt (by decide : (3 : Int32) < (4 : Int32))).2.2.2 (pc' := 53) rfl ?_
  refine f_aloadN A216 d5_53 (pc' := 54) rfl rfl rfl ?_
  refine f_iconst A216 d5_54 (pc' := 55) rfl 3 rfl ?_
  refine f_aloadN A216 d5_55 (pc' := 56) rfl rfl rfl ?_
  refine f_iconst A216 d5_56 (pc' := 57) rfl 3 rfl ?_
  have c218 := (c213.keep K216 (ninS (Nat.ne_of_lt (Nat.lt_of_lt_of_le F.lt bg200)) nin0) (ninS (Nat.ne_of_lt (Nat.lt_of_lt_of_le F.lt' bg200)) nin0))
  have c220 := (c215.keep K216)
  refine f_callV A216 (a := x) d5_57 (pc' := 60) rfl (wd hw 39 rfl) (wd hw 40 rfl) (nfS A216 (wd hw 42 rfl)) (wd hw 42 rfl) (wd hw 41 rfl) (by decide) c220 pd12 [(.int (3 : Int32))] [(.int (3 : Int32)), (.ref b200)] rfl rfl rfl 2 (Nat.le_of_eq rfl) (payCh (W := 2) A216 hw (wd hw 6 rfl) c218 (by decide) O2 P5 O4 rG3 3 (Nat.le_of_ble_eq_true rfl) rfl (by decide) (by decide)) (kc := 0) (ks := 0) (by decide) (by decide) all0 (fun q => nomatch q) fun v219 T219 h219 L219 A219 K219 q219 => ?_
  obtain ⟨rfl, hh219⟩ := q219
  obtain rfl := hh219.symm
  show Wp pG e below _ T219 (mkF m 60 _ [(.int (121 : Int32)), (.int (3 : Int32)), (.ref b200)])
  refine f_castore A219 d5_60 (pc' := 61) rfl V216 ⟨by decide, by decide⟩ 3 (by decide) (Nat.le_of_ble_eq_true rfl) (121 : Int32) (by decide) (vs' := [(.int (100 : Int32)), (.int (101 : Int32)), (.int (110 : Int32)), (.int (121 : Int32)), (.int (0 : Int32))]) rfl (Nat.le_trans A0.sz bg200) (fun q => nomatch q) fun T221 h221 A221 K221 V221 => ?_
  have Q222 : Keep h0 h221 [] := Q217.trans K221 (allS (Or.inr (Nat.le_trans K0.1 bg200)) all0)
  refine f_iloadN A221 d5_61 (pc' := 62) rfl rfl ?_
  refine f_iconst A221 d5_62 (pc' := 63) rfl 4 rfl ?_
  refine f_icY A221 d5_63 (flt (by decide : ¬ (4 : Int32) < (4 : Int32))).2.2.2 (pc' := 74) (by decide) (by decide) ?_
  refine f_aloadN A221 d5_74 (pc' := 75) rfl rfl rfl ?_
  exact f_retRN A221 hlk hret d5_75 rfl rfl (by decide) (by decide) Q222 ⟨b200, kA200, rfl, (Nat.le_trans K0.1 bg200), V221⟩
set_option maxRecDepth 65536 in
set_option maxHeartbeats 40000000 in
theorem m_ck20 (l : Launch) (Z : State) (a0 : Array Value) (hw : ∀ d ∈ tables_1, d.before a0 Z = true) (x t : Addr) (zc : Int32) (O2 : Sta Z Z.heap "java/lang/String" "COMPACT_STRINGS" "Z" (.int zc)) (P5 : ¬ zc = 0) (fm : Value) (O4 : Sta Z Z.heap "jdk/internal/util/Preconditions" "SIOOBE_FORMATTER" "Ljava/util/function/BiFunction;" fm) (rG3 : fm.isRef = true) (h0 : Heap) (n0 : Nat) (ho : Old Z n0 h0) (F : Str Z h0 x t [(109 : Int32), (111 : Int32), (99 : Int32), (107 : Int32)]) :
    CN l (⟨"com/example/confinement/confinement/policy/VerdictForKeywordPinLaw", "copyKw", "(Ljava/lang/String;I)[C"⟩ : MethodName) method_5_code 4 (some (.array .char)) [] ({ frames := 5, cells := 1, slots := 4, locals := 90 } : Room) Z n0 h0 #[(.ref x), (.int (4 : Int32))] [] (fun v h => ∃ (a : Addr) (kA : ClassId), v = some (.ref a) ∧ h0.size ≤ a ∧ Arv Z h a kA .char 4 [(.int (109 : Int32)), (.int (111 : Int32)), (.int (99 : Int32)), (.int (107 : Int32))] (.int 0)) := by
  refine CN.walk (plainFor_of_name pn3) ho (L0 := #[.val (.ref x), .val (.int (4 : Int32)), .unset, .unset]) (fun m => rfl) ?_
  intro pG e s m below meth cO T hlk hret hnm A0
  have K0 : Keep h0 h0 [] := Keep.refl _ _
  refine f_iloadN A0 d5_0 (pc' := 1) rfl rfl ?_
  refine f_callS A0 d5_1 (pc' := 4) rfl (wd hw 35 rfl) (wd hw 36 rfl) (wd hw 2 rfl) (wd hw 37 rfl) (by decide) pd10 [(.int (4 : Int32))] [] rfl rfl rfl 0 (Nat.le_of_eq rfl) (CN.pay (W := 0) A0 (m_al4 l Z a0 hw h0 n0 A0.old) (wd hw 37 rfl) (wd hw 2 rfl) (by decide) (by decide)) (kc := 1) (ks := 4) (by decide) (by decide) all0 (fun q => nomatch q) fun v223 T223 h223 L223 A223 K223 q223 => ?_
  have Q224 : Keep h0 h223 [] := K0.trans K223 all0
  obtain ⟨b223, kA223, rfl, bg223, V223⟩ := q223
  show Wp pG e below _ T223 (mkF m 4 _ [(.ref b223)])
  refine f_astoreN A223 d5_4 (pc' := 5) rfl rfl (L' := #[.val (.ref x), .val (.int (4 : Int32)), .val (.ref b223), .unset]) rfl ?_
  refine f_aloadN A223 d5_5 (pc' := 6) rfl rfl rfl ?_
  have c225 := (F.keep K223 nin0 nin0)
  have c227 := (F.exa.keep K223)
  refine f_callV A223 (a := x) d5_6 (pc' := 9) rfl (wd hw 18 rfl) (wd hw 19 rfl) (nfS A223 (wd hw 21 rfl)) (wd hw 21 rfl) (wd hw 20 rfl) (by decide) c227 pd11 [] [] rfl rfl rfl 0 (Nat.le_of_eq rfl) (payLen (W := 0) A223 hw (wd hw 6 rfl) c225 O2 P5 (by decide) (by decide)) (kc := 0) (ks := 0) (by decide) (by decide) all0 (fun q => nomatch q) fun v226 T226 h226 L226 A226 K226 q226 => ?_
  obtain ⟨rfl, hh226⟩ := q226
  obtain rfl := hh226.symm
  show Wp pG e below _ T226 (mkF m 9 _ [(.int (4 : Int32))])
  refine f_istoreN A226 d5_9 (pc' := 10) rfl (L' := #[.val (.ref x), .val (.int (4 : Int32)), .val (.ref b223), .val (.int (4 : Int32))]) rfl ?_
  refine f_iloadN A226 d5_10 (pc' := 11) rfl rfl ?_
  refine f_ifN A226 d5_11 ((if0 _ _).trans (tlt (by decide : (0 : Int32) < (4 : Int32))).2.2.2) (pc' := 14) rfl ?_
  refine f_aloadN A226 d5_14 (pc' := 15) rfl rfl rfl ?_
  refine f_iconst A226 d5_15 (pc' := 16) rfl 0 rfl ?_
  refine f_aloadN A226 d5_16 (pc' := 17) rfl rfl rfl ?_
  refine f_iconst A226 d5_17 (pc' := 18) rfl 0 rfl ?_
  refine f_callV A226 (a := x) d5_18 (pc' := 21) rfl (wd hw 39 rfl) (wd hw 40 rfl) (nfS A226 (wd hw 42 rfl)) (wd hw 42 rfl) (wd hw 41 rfl) (by decide) c227 pd12 [(.int (0 : Int32))] [(.int (0 : Int32)), (.ref b223)] rfl rfl rfl 2 (Nat.le_of_eq rfl) (payCh (W := 2) A226 hw (wd hw 6 rfl) c225 (by decide) O2 P5 O4 rG3 0 (Nat.le_of_ble_eq_true rfl) rfl (by decide) (by decide)) (kc := 0) (ks := 0) (by decide) (by decide) all0 (fun q => nomatch q) fun v228 T228 h228 L228 A228 K228 q228 => ?_
  obtain ⟨rfl, hh228⟩ := q228
  obtain rfl := hh228.symm
  show Wp pG e below _ T228 (mkF m 21 _ [(.int (109 : Int32)), (.int (0 : Int32)), (.ref b223)])
  refine f_castore A228 d5_21 (pc' := 22) rfl V223 ⟨by decide, by decide⟩ 0 (by decide) (Nat.le_of_ble_eq_true rfl) (109 : Int32) (by decide) (vs' := [(.int (109 : Int32)), (.int (0 : Int32)), (.int (0 : Int32)), (.int (0 : Int32))]) rfl (Nat.le_trans A0.sz bg223) (fun q => nomatch q) fun T229 h229 A229 K229 V229 => ?_
  have Q230 : Keep h0 h229 [] := Q224.trans K229 (allS (Or.inr (Nat.le_trans K0.1 bg223)) all0)
  refine f_iloadN A229 d5_22 (pc' := 23) rfl rfl ?_
  refine f_iconst A229 d5_23 (pc' := 24) rfl 1 rfl ?_
  refine f_icN A229 d5_24 (tlt (by decide : (1 : Int32) < (4 : Int32))).2.2.2 (pc' := 27) rfl ?_
  refine f_aloadN A229 d5_27 (pc' := 28) rfl rfl rfl ?_
  refine f_iconst A229 d5_28 (pc' := 29) rfl 1 rfl ?_
  refine f_aloadN A229 d5_29 (pc' := 30) rfl rfl rfl ?_
  refine f_iconst A229 d5_30 (pc' := 31) rfl 1 rfl ?_
  have c231 := (c225.keep K229 (ninS (Nat.ne_of_lt (Nat.lt_of_lt_of_le F.lt bg223)) nin0) (ninS (Nat.ne_of_lt (Nat.lt_of_lt_of_le F.lt' bg223)) nin0))
  have c233 := (c227.keep K229)
  refine f_callV A229 (a := x) d5_31 (pc' := 34) rfl (wd hw 39 rfl) (wd hw 40 rfl) (nfS A229 (wd hw 42 rfl)) (wd hw 42 rfl) (wd hw 41 rfl) (by decide) c233 pd12 [(.int (1 : Int32))] [(.int (1 : Int32)), (.ref b223)] rfl rfl rfl 2 (Nat.le_of_eq rfl) (payCh (W := 2) A229 hw (wd hw 6 rfl) c231 (by decide) O2 P5 O4 rG3 1 (Nat.le_of_ble_eq_true rfl) rfl (by decide) (by decide)) (kc := 0) (ks := 0) (by decide) (by decide) all0 (fun q => nomatch q) fun v232 T232 h232 L232 A232 K232 q232 => ?_
  obtain ⟨rfl, hh232⟩ := q232
  obtain rfl := hh232.symm
  show Wp pG e below _ T232 (mkF m 34 _ [(.int (111 : Int32)), (.int (1 : Int32)), (.ref b223)])
  refine f_castore A232 d5_34 (pc' := 35) rfl V229 ⟨by decide, by decide⟩ 1 (by decide) (Nat.le_of_ble_eq_true rfl) (111 : Int32) (by decide) (vs' := [(.int (109 : Int32)), (.int (111 : Int32)), (.int (0 : Int32)), (.int (0 : Int32))]) rfl (Nat.le_trans A0.sz bg223) (fun q => nomatch q) fun T234 h234 A234 K234 V234 => ?_
  have Q235 : Keep h0 h234 [] := Q230.trans K234 (allS (Or.inr (Nat.le_trans K0.1 bg223)) all0)
  refine f_iloadN A234 d5_35 (pc' := 36) rfl rfl ?_
  refine f_iconst A234 d5_36 (pc' := 37) rfl 2 rfl ?_
  refine f_icN A234 d5_37 (tlt (by decide : (2 : Int32) < (4 : Int32))).2.2.2 (pc' := 40) rfl ?_
  refine f_aloadN A234 d5_40 (pc' := 41) rfl rfl rfl ?_
  refine f_iconst A234 d5_41 (pc' := 42) rfl 2 rfl ?_
  refine f_aloadN A234 d5_42 (pc' := 43) rfl rfl rfl ?_
  refine f_iconst A234 d5_43 (pc' := 44) rfl 2 rfl ?_
  have c236 := (c231.keep K234 (ninS (Nat.ne_of_lt (Nat.lt_of_lt_of_le F.lt bg223)) nin0) (ninS (Nat.ne_of_lt (Nat.lt_of_lt_of_le F.lt' bg223)) nin0))
  have c238 := (c233.keep K234)
  refine f_callV A234 (a := x) d5_44 (pc' := 47) rfl (wd hw 39 rfl) (wd hw 40 rfl) (nfS A234 (wd hw 42 rfl)) (wd hw 42 rfl) (wd hw 41 rfl) (by decide) c238 pd12 [(.int (2 : Int32))] [(.int (2 : Int32)), (.ref b223)] rfl rfl rfl 2 (Nat.le_of_eq rfl) (payCh (W := 2) A234 hw (wd hw 6 rfl) c236 (by decide) O2 P5 O4 rG3 2 (Nat.le_of_ble_eq_true rfl) rfl (by decide) (by decide)) (kc := 0) (ks := 0) (by decide) (by decide) all0 (fun q => nomatch q) fun v237 T237 h237 L237 A237 K237 q237 => ?_
  obtain ⟨rfl, hh237⟩ := q237
  obtain rfl := hh237.symm
  show Wp pG e below _ T237 (mkF m 47 _ [(.int (99 : Int32)), (.int (2 : Int32)), (.ref b223)])
  refine f_castore A237 d5_47 (pc' := 48) rfl V234 ⟨by decide, by decide⟩ 2 (by decide) (Nat.le_of_ble_eq_true rfl) (99 : Int32) (by decide) (vs' := [(.int (109 : Int32)), (.int (111 : Int32)), (.int (99 : Int32)), (.int (0 : Int32))]) rfl (Nat.le_trans A0.sz bg223) (fun q => nomatch q) fun T239 h239 A239 K239 V239 => ?_
  have Q240 : Keep h0 h239 [] := Q235.trans K239 (allS (Or.inr (Nat.le_trans K0.1 bg223)) all0)
  refine f_iloadN A239 d5_48 (pc' := 49) rfl rfl ?_
  refine f_iconst A239 d5_49 (pc' := 50) rfl 3 rfl ?_
  refine f_icN A239 d5_50 (tlt (by decide : (3 : Int32) < (4 : Int32))).2.2.2 (pc' := 53) rfl ?_
  refine f_aloadN A239 d5_53 (pc' := 54) rfl rfl rfl ?_
  refine f_iconst A239 d5_54 (pc' := 55) rfl 3 rfl ?_
  refine f_aloadN A239 d5_55 (pc' := 56) rfl rfl rfl ?_
  refine f_iconst A239 d5_56 (pc' := 57) rfl 3 rfl ?_
  have c241 := (c236.keep K239 (ninS (Nat.ne_of_lt (Nat.lt_of_lt_of_le F.lt bg223)) nin0) (ninS (Nat.ne_of_lt (Nat.lt_of_lt_of_le F.lt' bg223)) nin0))
  have c243 := (c238.keep K239)
  refine f_callV A239 (a := x) d5_57 (pc' := 60) rfl (wd hw 39 rfl) (wd hw 40 rfl) (nfS A239 (wd hw 42 rfl)) (wd hw 42 rfl) (wd hw 41 rfl) (by decide) c243 pd12 [(.int (3 : Int32))] [(.int (3 : Int32)), (.ref b223)] rfl rfl rfl 2 (Nat.le_of_eq rfl) (payCh (W := 2) A239 hw (wd hw 6 rfl) c241 (by decide) O2 P5 O4 rG3 3 (Nat.le_of_ble_eq_true rfl) rfl (by decide) (by decide)) (kc := 0) (ks := 0) (by decide) (by decide) all0 (fun q => nomatch q) fun v242 T242 h242 L242 A242 K242 q242 => ?_
  obtain ⟨rfl, hh242⟩ := q242
  obtain rfl := hh242.symm
  show Wp pG e below _ T242 (mkF m 60 _ [(.int (107 : Int32)), (.int (3 : Int32)), (.ref b223)])
  refine f_castore A242 d5_60 (pc' := 61) rfl V239 ⟨by decide, by decide⟩ 3 (by decide) (Nat.le_of_ble_eq_true rfl) (107 : Int32) (by decide) (vs' := [(.int (109 : Int32)), (.int (111 : Int32)), (.int (99 : Int32)), (.int (107 : Int32))]) rfl (Nat.le_trans A0.sz bg223) (fun q => nomatch q) fun T244 h244 A244 K244 V244 => ?_
  have Q245 : Keep h0 h244 [] := Q240.trans K244 (allS (Or.inr (Nat.le_trans K0.1 bg223)) all0)
  refine f_iloadN A244 d5_61 (pc' := 62) rfl rfl ?_
  refine f_iconst A244 d5_62 (pc' := 63) rfl 4 rfl ?_
  refine f_icY A244 d5_63 (flt (by decide : ¬ (4 : Int32) < (4 : Int32))).2.2.2 (pc' := 74) (by decide) (by decide) ?_
  refine f_aloadN A244 d5_74 (pc' := 75) rfl rfl rfl ?_
  exact f_retRN A244 hlk hret d5_75 rfl rfl (by decide) (by decide) Q245 ⟨b223, kA223, rfl, (Nat.le_trans K0.1 bg223), V244⟩
set_option maxRecDepth 65536 in
set_option maxHeartbeats 40000000 in
theorem m_ck21 (l : Launch) (Z : State) (a0 : Array Value) (hw : ∀ d ∈ tables_1, d.before a0 Z = true) (x t : Addr) (zc : Int32) (O2 : Sta Z Z.heap "java/lang/String" "COMPACT_STRINGS" "Z" (.int zc)) (P5 : ¬ zc = 0) (fm : Value) (O4 : Sta Z Z.heap "jdk/internal/util/Preconditions" "SIOOBE_FORMATTER" "Ljava/util/function/BiFunction;" fm) (rG3 : fm.isRef = true) (h0 : Heap) (n0 : Nat) (ho : Old Z n0 h0) (F : Str Z h0 x t [(109 : Int32), (111 : Int32), (99 : Int32), (107 : Int32)]) :
    CN l (⟨"com/example/confinement/confinement/policy/VerdictForKeywordPinLaw", "copyKw", "(Ljava/lang/String;I)[C"⟩ : MethodName) method_5_code 4 (some (.array .char)) [] ({ frames := 5, cells := 1, slots := 5, locals := 90 } : Room) Z n0 h0 #[(.ref x), (.int (5 : Int32))] [] (fun v h => ∃ (a : Addr) (kA : ClassId), v = some (.ref a) ∧ h0.size ≤ a ∧ Arv Z h a kA .char 5 [(.int (109 : Int32)), (.int (111 : Int32)), (.int (99 : Int32)), (.int (107 : Int32)), (.int (0 : Int32))] (.int 0)) := by
  refine CN.walk (plainFor_of_name pn3) ho (L0 := #[.val (.ref x), .val (.int (5 : Int32)), .unset, .unset]) (fun m => rfl) ?_
  intro pG e s m below meth cO T hlk hret hnm A0
  have K0 : Keep h0 h0 [] := Keep.refl _ _
  refine f_iloadN A0 d5_0 (pc' := 1) rfl rfl ?_
  refine f_callS A0 d5_1 (pc' := 4) rfl (wd hw 35 rfl) (wd hw 36 rfl) (wd hw 2 rfl) (wd hw 37 rfl) (by decide) pd10 [(.int (5 : Int32))] [] rfl rfl rfl 0 (Nat.le_of_eq rfl) (CN.pay (W := 0) A0 (m_al5 l Z a0 hw h0 n0 A0.old) (wd hw 37 rfl) (wd hw 2 rfl) (by decide) (by decide)) (kc := 1) (ks := 5) (by decide) (by decide) all0 (fun q => nomatch q) fun v246 T246 h246 L246 A246 K246 q246 => ?_
  have Q247 : Keep h0 h246 [] := K0.trans K246 all0
  obtain ⟨b246, kA246, rfl, bg246, V246⟩ := q246
  show Wp pG e below _ T246 (mkF m 4 _ [(.ref b246)])
  refine f_astoreN A246 d5_4 (pc' := 5) rfl rfl (L' := #[.val (.ref x), .val (.int (5 : Int32)), .val (.ref b246), .unset]) rfl ?_
  refine f_aloadN A246 d5_5 (pc' := 6) rfl rfl rfl ?_
  have c248 := (F.keep K246 nin0 nin0)
  have c250 := (F.exa.keep K246)
  refine f_callV A246 (a := x) d5_6 (pc' := 9) rfl (wd hw 18 rfl) (wd hw 19 rfl) (nfS A246 (wd hw 21 rfl)) (wd hw 21 rfl) (wd hw 20 rfl) (by decide) c250 pd11 [] [] rfl rfl rfl 0 (Nat.le_of_eq rfl) (payLen (W := 0) A246 hw (wd hw 6 rfl) c248 O2 P5 (by decide) (by decide)) (kc := 0) (ks := 0) (by decide) (by decide) all0 (fun q => nomatch q) fun v249 T249 h249 L249 A249 K249 q249 => ?_
  obtain ⟨rfl, hh249⟩ := q249
  obtain rfl := hh249.symm
  show Wp pG e below _ T249 (mkF m 9 _ [(.int (4 : Int32))])
  refine f_istoreN A249 d5_9 (pc' := 10) rfl (L' := #[.val (.ref x), .val (.int (5 : Int32)), .val (.ref b246), .val (.int (4 : Int32))]) rfl ?_
  refine f_iloadN A249 d5_10 (pc' := 11) rfl rfl ?_
  refine f_ifN A249 d5_11 ((if0 _ _).trans (tlt (by decide : (0 : Int32) < (4 : Int32))).2.2.2) (pc' := 14) rfl ?_
  refine f_aloadN A249 d5_14 (pc' := 15) rfl rfl rfl ?_
  refine f_iconst A249 d5_15 (pc' := 16) rfl 0 rfl ?_
  refine f_aloadN A249 d5_16 (pc' := 17) rfl rfl rfl ?_
  refine f_iconst A249 d5_17 (pc' := 18) rfl 0 rfl ?_
  refine f_callV A249 (a := x) d5_18 (pc' := 21) rfl (wd hw 39 rfl) (wd hw 40 rfl) (nfS A249 (wd hw 42 rfl)) (wd hw 42 rfl) (wd hw 41 rfl) (by decide) c250 pd12 [(.int (0 : Int32))] [(.int (0 : Int32)), (.ref b246)] rfl rfl rfl 2 (Nat.le_of_eq rfl) (payCh (W := 2) A249 hw (wd hw 6 rfl) c248 (by decide) O2 P5 O4 rG3 0 (Nat.le_of_ble_eq_true rfl) rfl (by decide) (by decide)) (kc := 0) (ks := 0) (by decide) (by decide) all0 (fun q => nomatch q) fun v251 T251 h251 L251 A251 K251 q251 => ?_
  obtain ⟨rfl, hh251⟩ := q251
  obtain rfl := hh251.symm
  show Wp pG e below _ T251 (mkF m 21 _ [(.int (109 : Int32)), (.int (0 : Int32)), (.ref b246)])
  refine f_castore A251 d5_21 (pc' := 22) rfl V246 ⟨by decide, by decide⟩ 0 (by decide) (Nat.le_of_ble_eq_true rfl) (109 : Int32) (by decide) (vs' := [(.int (109 : Int32)), (.int (0 : Int32)), (.int (0 : Int32)), (.int (0 : Int32)), (.int (0 : Int32))]) rfl (Nat.le_trans A0.sz bg246) (fun q => nomatch q) fun T252 h252 A252 K252 V252 => ?_
  have Q253 : Keep h0 h252 [] := Q247.trans K252 (allS (Or.inr (Nat.le_trans K0.1 bg246)) all0)
  refine f_iloadN A252 d5_22 (pc' := 23) rfl rfl ?_
  refine f_iconst A252 d5_23 (pc' := 24) rfl 1 rfl ?_
  refine f_icN A252 d5_24 (tlt (by decide : (1 : Int32) < (4 : Int32))).2.2.2 (pc' := 27) rfl ?_
  refine f_aloadN A252 d5_27 (pc' := 28) rfl rfl rfl ?_
  refine f_iconst A252 d5_28 (pc' := 29) rfl 1 rfl ?_
  refine f_aloadN A252 d5_29 (pc' := 30) rfl rfl rfl ?_
  refine f_iconst A252 d5_30 (pc' := 31) rfl 1 rfl ?_
  have c254 := (c248.keep K252 (ninS (Nat.ne_of_lt (Nat.lt_of_lt_of_le F.lt bg246)) nin0) (ninS (Nat.ne_of_lt (Nat.lt_of_lt_of_le F.lt' bg246)) nin0))
  have c256 := (c250.keep K252)
  refine f_callV A252 (a := x) d5_31 (pc' := 34) rfl (wd hw 39 rfl) (wd hw 40 rfl) (nfS A252 (wd hw 42 rfl)) (wd hw 42 rfl) (wd hw 41 rfl) (by decide) c256 pd12 [(.int (1 : Int32))] [(.int (1 : Int32)), (.ref b246)] rfl rfl rfl 2 (Nat.le_of_eq rfl) (payCh (W := 2) A252 hw (wd hw 6 rfl) c254 (by decide) O2 P5 O4 rG3 1 (Nat.le_of_ble_eq_true rfl) rfl (by decide) (by decide)) (kc := 0) (ks := 0) (by decide) (by decide) all0 (fun q => nomatch q) fun v255 T255 h255 L255 A255 K255 q255 => ?_
  obtain ⟨rfl, hh255⟩ := q255
  obtain rfl := hh255.symm
  show Wp pG e below _ T255 (mkF m 34 _ [(.int (111 : Int32)), (.int (1 : Int32)), (.ref b246)])
  refine f_castore A255 d5_34 (pc' := 35) rfl V252 ⟨by decide, by decide⟩ 1 (by decide) (Nat.le_of_ble_eq_true rfl) (111 : Int32) (by decide) (vs' := [(.int (109 : Int32)), (.int (111 : Int32)), (.int (0 : Int32)), (.int (0 : Int32)), (.int (0 : Int32))]) rfl (Nat.le_trans A0.sz bg246) (fun q => nomatch q) fun T257 h257 A257 K257 V257 => ?_
  have Q258 : Keep h0 h257 [] := Q253.trans K257 (allS (Or.inr (Nat.le_trans K0.1 bg246)) all0)
  refine f_iloadN A257 d5_35 (pc' := 36) rfl rfl ?_
  refine f_iconst A257 d5_36 (pc' := 37) rfl 2 rfl ?_
  refine f_icN A257 d5_37 (tlt (by decide : (2 : Int32) < (4 : Int32))).2.2.2 (pc' := 40) rfl ?_
  refine f_aloadN A257 d5_40 (pc' := 41) rfl rfl rfl ?_
  refine f_iconst A257 d5_41 (pc' := 42) rfl 2 rfl ?_
  refine f_aloadN A257 d5_42 (pc' := 43) rfl rfl rfl ?_
  refine f_iconst A257 d5_43 (pc' := 44) rfl 2 rfl ?_
  have c259 := (c254.keep K257 (ninS (Nat.ne_of_lt (Nat.lt_of_lt_of_le F.lt bg246)) nin0) (ninS (Nat.ne_of_lt (Nat.lt_of_lt_of_le F.lt' bg246)) nin0))
  have c261 := (c256.keep K257)
  refine f_callV A257 (a := x) d5_44 (pc' := 47) rfl (wd hw 39 rfl) (wd hw 40 rfl) (nfS A257 (wd hw 42 rfl)) (wd hw 42 rfl) (wd hw 41 rfl) (by decide) c261 pd12 [(.int (2 : Int32))] [(.int (2 : Int32)), (.ref b246)] rfl rfl rfl 2 (Nat.le_of_eq rfl) (payCh (W := 2) A257 hw (wd hw 6 rfl) c259 (by decide) O2 P5 O4 rG3 2 (Nat.le_of_ble_eq_true rfl) rfl (by decide) (by decide)) (kc := 0) (ks := 0) (by decide) (by decide) all0 (fun q => nomatch q) fun v260 T260 h260 L260 A260 K260 q260 => ?_
  obtain ⟨rfl, hh260⟩ := q260
  obtain rfl := hh260.symm
  show Wp pG e below _ T260 (mkF m 47 _ [(.int (99 : Int32)), (.int (2 : Int32)), (.ref b246)])
  refine f_castore A260 d5_47 (pc' := 48) rfl V257 ⟨by decide, by decide⟩ 2 (by decide) (Nat.le_of_ble_eq_true rfl) (99 : Int32) (by decide) (vs' := [(.int (109 : Int32)), (.int (111 : Int32)), (.int (99 : Int32)), (.int (0 : Int32)), (.int (0 : Int32))]) rfl (Nat.le_trans A0.sz bg246) (fun q => nomatch q) fun T262 h262 A262 K262 V262 => ?_
  have Q263 : Keep h0 h262 [] := Q258.trans K262 (allS (Or.inr (Nat.le_trans K0.1 bg246)) all0)
  refine f_iloadN A262 d5_48 (pc' := 49) rfl rfl ?_
  refine f_iconst A262 d5_49 (pc' := 50) rfl 3 rfl ?_
  refine f_icN A262 d5_50 (tlt (by decide : (3 : Int32) < (4 : Int32))).2.2.2 (pc' := 53) rfl ?_
  refine f_aloadN A262 d5_53 (pc' := 54) rfl rfl rfl ?_
  refine f_iconst A262 d5_54 (pc' := 55) rfl 3 rfl ?_
  refine f_aloadN A262 d5_55 (pc' := 56) rfl rfl rfl ?_
  refine f_iconst A262 d5_56 (pc' := 57) rfl 3 rfl ?_
  have c264 := (c259.keep K262 (ninS (Nat.ne_of_lt (Nat.lt_of_lt_of_le F.lt bg246)) nin0) (ninS (Nat.ne_of_lt (Nat.lt_of_lt_of_le F.lt' bg246)) nin0))
  have c266 := (c261.keep K262)
  refine f_callV A262 (a := x) d5_57 (pc' := 60) rfl (wd hw 39 rfl) (wd hw 40 rfl) (nfS A262 (wd hw 42 rfl)) (wd hw 42 rfl) (wd hw 41 rfl) (by decide) c266 pd12 [(.int (3 : Int32))] [(.int (3 : Int32)), (.ref b246)] rfl rfl rfl 2 (Nat.le_of_eq rfl) (payCh (W := 2) A262 hw (wd hw 6 rfl) c264 (by decide) O2 P5 O4 rG3 3 (Nat.le_of_ble_eq_true rfl) rfl (by decide) (by decide)) (kc := 0) (ks := 0) (by decide) (by decide) all0 (fun q => nomatch q) fun v265 T265 h265 L265 A265 K265 q265 => ?_
  obtain ⟨rfl, hh265⟩ := q265
  obtain rfl := hh265.symm
  show Wp pG e below _ T265 (mkF m 60 _ [(.int (107 : Int32)), (.int (3 : Int32)), (.ref b246)])
  refine f_castore A265 d5_60 (pc' := 61) rfl V262 ⟨by decide, by decide⟩ 3 (by decide) (Nat.le_of_ble_eq_true rfl) (107 : Int32) (by decide) (vs' := [(.int (109 : Int32)), (.int (111 : Int32)), (.int (99 : Int32)), (.int (107 : Int32)), (.int (0 : Int32))]) rfl (Nat.le_trans A0.sz bg246) (fun q => nomatch q) fun T267 h267 A267 K267 V267 => ?_
  have Q268 : Keep h0 h267 [] := Q263.trans K267 (allS (Or.inr (Nat.le_trans K0.1 bg246)) all0)
  refine f_iloadN A267 d5_61 (pc' := 62) rfl rfl ?_
  refine f_iconst A267 d5_62 (pc' := 63) rfl 4 rfl ?_
  refine f_icY A267 d5_63 (flt (by decide : ¬ (4 : Int32) < (4 : Int32))).2.2.2 (pc' := 74) (by decide) (by decide) ?_
  refine f_aloadN A267 d5_74 (pc' := 75) rfl rfl rfl ?_
  exact f_retRN A267 hlk hret d5_75 rfl rfl (by decide) (by decide) Q268 ⟨b246, kA246, rfl, (Nat.le_trans K0.1 bg246), V267⟩
set_option maxRecDepth 65536 in
set_option maxHeartbeats 40000000 in
theorem m_ck30 (l : Launch) (Z : State) (a0 : Array Value) (hw : ∀ d ∈ tables_1, d.before a0 Z = true) (x t : Addr) (zc : Int32) (O2 : Sta Z Z.heap "java/lang/String" "COMPACT_STRINGS" "Z" (.int zc)) (P5 : ¬ zc = 0) (fm : Value) (O4 : Sta Z Z.heap "jdk/internal/util/Preconditions" "SIOOBE_FORMATTER" "Ljava/util/function/BiFunction;" fm) (rG3 : fm.isRef = true) (h0 : Heap) (n0 : Nat) (ho : Old Z n0 h0) (F : Str Z h0 x t [(108 : Int32), (111 : Int32), (103 : Int32)]) :
    CN l (⟨"com/example/confinement/confinement/policy/VerdictForKeywordPinLaw", "copyKw", "(Ljava/lang/String;I)[C"⟩ : MethodName) method_5_code 4 (some (.array .char)) [] ({ frames := 5, cells := 1, slots := 3, locals := 90 } : Room) Z n0 h0 #[(.ref x), (.int (3 : Int32))] [] (fun v h => ∃ (a : Addr) (kA : ClassId), v = some (.ref a) ∧ h0.size ≤ a ∧ Arv Z h a kA .char 3 [(.int (108 : Int32)), (.int (111 : Int32)), (.int (103 : Int32))] (.int 0)) := by
  refine CN.walk (plainFor_of_name pn3) ho (L0 := #[.val (.ref x), .val (.int (3 : Int32)), .unset, .unset]) (fun m => rfl) ?_
  intro pG e s m below meth cO T hlk hret hnm A0
  have K0 : Keep h0 h0 [] := Keep.refl _ _
  refine f_iloadN A0 d5_0 (pc' := 1) rfl rfl ?_
  refine f_callS A0 d5_1 (pc' := 4) rfl (wd hw 35 rfl) (wd hw 36 rfl) (wd hw 2 rfl) (wd hw 37 rfl) (by decide) pd10 [(.int (3 : Int32))] [] rfl rfl rfl 0 (Nat.le_of_eq rfl) (CN.pay (W := 0) A0 (m_al3 l Z a0 hw h0 n0 A0.old) (wd hw 37 rfl) (wd hw 2 rfl) (by decide) (by decide)) (kc := 1) (ks := 3) (by decide) (by decide) all0 (fun q => nomatch q) fun v269 T269 h269 L269 A269 K269 q269 => ?_
  have Q270 : Keep h0 h269 [] := K0.trans K269 all0
  obtain ⟨b269, kA269, rfl, bg269, V269⟩ := q269
  show Wp pG e below _ T269 (mkF m 4 _ [(.ref b269)])
  refine f_astoreN A269 d5_4 (pc' := 5) rfl rfl (L' := #[.val (.ref x), .val (.int (3 : Int32)), .val (.ref b269), .unset]) rfl ?_
  refine f_aloadN A269 d5_5 (pc' := 6) rfl rfl rfl ?_
  have c271 := (F.keep K269 nin0 nin0)
  have c273 := (F.exa.keep K269)
  refine f_callV A269 (a := x) d5_6 (pc' := 9) rfl (wd hw 18 rfl) (wd hw 19 rfl) (nfS A269 (wd hw 21 rfl)) (wd hw 21 rfl) (wd hw 20 rfl) (by decide) c273 pd11 [] [] rfl rfl rfl 0 (Nat.le_of_eq rfl) (payLen (W := 0) A269 hw (wd hw 6 rfl) c271 O2 P5 (by decide) (by decide)) (kc := 0) (ks := 0) (by decide) (by decide) all0 (fun q => nomatch q) fun v272 T272 h272 L272 A272 K272 q272 => ?_
  obtain ⟨rfl, hh272⟩ := q272
  obtain rfl := hh272.symm
  show Wp pG e below _ T272 (mkF m 9 _ [(.int (3 : Int32))])
  refine f_istoreN A272 d5_9 (pc' := 10) rfl (L' := #[.val (.ref x), .val (.int (3 : Int32)), .val (.ref b269), .val (.int (3 : Int32))]) rfl ?_
  refine f_iloadN A272 d5_10 (pc' := 11) rfl rfl ?_
  refine f_ifN A272 d5_11 ((if0 _ _).trans (tlt (by decide : (0 : Int32) < (3 : Int32))).2.2.2) (pc' := 14) rfl ?_
  refine f_aloadN A272 d5_14 (pc' := 15) rfl rfl rfl ?_
  refine f_iconst A272 d5_15 (pc' := 16) rfl 0 rfl ?_
  refine f_aloadN A272 d5_16 (pc' := 17) rfl rfl rfl ?_
  refine f_iconst A272 d5_17 (pc' := 18) rfl 0 rfl ?_
  refine f_callV A272 (a := x) d5_18 (pc' := 21) rfl (wd hw 39 rfl) (wd hw 40 rfl) (nfS A272 (wd hw 42 rfl)) (wd hw 42 rfl) (wd hw 41 rfl) (by decide) c273 pd12 [(.int (0 : Int32))] [(.int (0 : Int32)), (.ref b269)] rfl rfl rfl 2 (Nat.le_of_eq rfl) (payCh (W := 2) A272 hw (wd hw 6 rfl) c271 (by decide) O2 P5 O4 rG3 0 (Nat.le_of_ble_eq_true rfl) rfl (by decide) (by decide)) (kc := 0) (ks := 0) (by decide) (by decide) all0 (fun q => nomatch q) fun v274 T274 h274 L274 A274 K274 q274 => ?_
  obtain ⟨rfl, hh274⟩ := q274
  obtain rfl := hh274.symm
  show Wp pG e below _ T274 (mkF m 21 _ [(.int (108 : Int32)), (.int (0 : Int32)), (.ref b269)])
  refine f_castore A274 d5_21 (pc' := 22) rfl V269 ⟨by decide, by decide⟩ 0 (by decide) (Nat.le_of_ble_eq_true rfl) (108 : Int32) (by decide) (vs' := [(.int (108 : Int32)), (.int (0 : Int32)), (.int (0 : Int32))]) rfl (Nat.le_trans A0.sz bg269) (fun q => nomatch q) fun T275 h275 A275 K275 V275 => ?_
  have Q276 : Keep h0 h275 [] := Q270.trans K275 (allS (Or.inr (Nat.le_trans K0.1 bg269)) all0)
  refine f_iloadN A275 d5_22 (pc' := 23) rfl rfl ?_
  refine f_iconst A275 d5_23 (pc' := 24) rfl 1 rfl ?_
  refine f_icN A275 d5_24 (tlt (by decide : (1 : Int32) < (3 : Int32))).2.2.2 (pc' := 27) rfl ?_
  refine f_aloadN A275 d5_27 (pc' := 28) rfl rfl rfl ?_
  refine f_iconst A275 d5_28 (pc' := 29) rfl 1 rfl ?_
  refine f_aloadN A275 d5_29 (pc' := 30) rfl rfl rfl ?_
  refine f_iconst A275 d5_30 (pc' := 31) rfl 1 rfl ?_
  have c277 := (c271.keep K275 (ninS (Nat.ne_of_lt (Nat.lt_of_lt_of_le F.lt bg269)) nin0) (ninS (Nat.ne_of_lt (Nat.lt_of_lt_of_le F.lt' bg269)) nin0))
  have c279 := (c273.keep K275)
  refine f_callV A275 (a := x) d5_31 (pc' := 34) rfl (wd hw 39 rfl) (wd hw 40 rfl) (nfS A275 (wd hw 42 rfl)) (wd hw 42 rfl) (wd hw 41 rfl) (by decide) c279 pd12 [(.int (1 : Int32))] [(.int (1 : Int32)), (.ref b269)] rfl rfl rfl 2 (Nat.le_of_eq rfl) (payCh (W := 2) A275 hw (wd hw 6 rfl) c277 (by decide) O2 P5 O4 rG3 1 (Nat.le_of_ble_eq_true rfl) rfl (by decide) (by decide)) (kc := 0) (ks := 0) (by decide) (by decide) all0 (fun q => nomatch q) fun v278 T278 h278 L278 A278 K278 q278 => ?_
  obtain ⟨rfl, hh278⟩ := q278
  obtain rfl := hh278.symm
  show Wp pG e below _ T278 (mkF m 34 _ [(.int (111 : Int32)), (.int (1 : Int32)), (.ref b269)])
  refine f_castore A278 d5_34 (pc' := 35) rfl V275 ⟨by decide, by decide⟩ 1 (by decide) (Nat.le_of_ble_eq_true rfl) (111 : Int32) (by decide) (vs' := [(.int (108 : Int32)), (.int (111 : Int32)), (.int (0 : Int32))]) rfl (Nat.le_trans A0.sz bg269) (fun q => nomatch q) fun T280 h280 A280 K280 V280 => ?_
  have Q281 : Keep h0 h280 [] := Q276.trans K280 (allS (Or.inr (Nat.le_trans K0.1 bg269)) all0)
  refine f_iloadN A280 d5_35 (pc' := 36) rfl rfl ?_
  refine f_iconst A280 d5_36 (pc' := 37) rfl 2 rfl ?_
  refine f_icN A280 d5_37 (tlt (by decide : (2 : Int32) < (3 : Int32))).2.2.2 (pc' := 40) rfl ?_
  refine f_aloadN A280 d5_40 (pc' := 41) rfl rfl rfl ?_
  refine f_iconst A280 d5_41 (pc' := 42) rfl 2 rfl ?_
  refine f_aloadN A280 d5_42 (pc' := 43) rfl rfl rfl ?_
  refine f_iconst A280 d5_43 (pc' := 44) rfl 2 rfl ?_
  have c282 := (c277.keep K280 (ninS (Nat.ne_of_lt (Nat.lt_of_lt_of_le F.lt bg269)) nin0) (ninS (Nat.ne_of_lt (Nat.lt_of_lt_of_le F.lt' bg269)) nin0))
  have c284 := (c279.keep K280)
  refine f_callV A280 (a := x) d5_44 (pc' := 47) rfl (wd hw 39 rfl) (wd hw 40 rfl) (nfS A280 (wd hw 42 rfl)) (wd hw 42 rfl) (wd hw 41 rfl) (by decide) c284 pd12 [(.int (2 : Int32))] [(.int (2 : Int32)), (.ref b269)] rfl rfl rfl 2 (Nat.le_of_eq rfl) (payCh (W := 2) A280 hw (wd hw 6 rfl) c282 (by decide) O2 P5 O4 rG3 2 (Nat.le_of_ble_eq_true rfl) rfl (by decide) (by decide)) (kc := 0) (ks := 0) (by decide) (by decide) all0 (fun q => nomatch q) fun v283 T283 h283 L283 A283 K283 q283 => ?_
  obtain ⟨rfl, hh283⟩ := q283
  obtain rfl := hh283.symm
  show Wp pG e below _ T283 (mkF m 47 _ [(.int (103 : Int32)), (.int (2 : Int32)), (.ref b269)])
  refine f_castore A283 d5_47 (pc' := 48) rfl V280 ⟨by decide, by decide⟩ 2 (by decide) (Nat.le_of_ble_eq_true rfl) (103 : Int32) (by decide) (vs' := [(.int (108 : Int32)), (.int (111 : Int32)), (.int (103 : Int32))]) rfl (Nat.le_trans A0.sz bg269) (fun q => nomatch q) fun T285 h285 A285 K285 V285 => ?_
  have Q286 : Keep h0 h285 [] := Q281.trans K285 (allS (Or.inr (Nat.le_trans K0.1 bg269)) all0)
  refine f_iloadN A285 d5_48 (pc' := 49) rfl rfl ?_
  refine f_iconst A285 d5_49 (pc' := 50) rfl 3 rfl ?_
  refine f_icY A285 d5_50 (flt (by decide : ¬ (3 : Int32) < (3 : Int32))).2.2.2 (pc' := 61) (by decide) (by decide) ?_
  refine f_iloadN A285 d5_61 (pc' := 62) rfl rfl ?_
  refine f_iconst A285 d5_62 (pc' := 63) rfl 4 rfl ?_
  refine f_icY A285 d5_63 (flt (by decide : ¬ (4 : Int32) < (3 : Int32))).2.2.2 (pc' := 74) (by decide) (by decide) ?_
  refine f_aloadN A285 d5_74 (pc' := 75) rfl rfl rfl ?_
  exact f_retRN A285 hlk hret d5_75 rfl rfl (by decide) (by decide) Q286 ⟨b269, kA269, rfl, (Nat.le_trans K0.1 bg269), V285⟩
set_option maxRecDepth 65536 in
set_option maxHeartbeats 40000000 in
theorem m_ck31 (l : Launch) (Z : State) (a0 : Array Value) (hw : ∀ d ∈ tables_1, d.before a0 Z = true) (x t : Addr) (zc : Int32) (O2 : Sta Z Z.heap "java/lang/String" "COMPACT_STRINGS" "Z" (.int zc)) (P5 : ¬ zc = 0) (fm : Value) (O4 : Sta Z Z.heap "jdk/internal/util/Preconditions" "SIOOBE_FORMATTER" "Ljava/util/function/BiFunction;" fm) (rG3 : fm.isRef = true) (h0 : Heap) (n0 : Nat) (ho : Old Z n0 h0) (F : Str Z h0 x t [(108 : Int32), (111 : Int32), (103 : Int32)]) :
    CN l (⟨"com/example/confinement/confinement/policy/VerdictForKeywordPinLaw", "copyKw", "(Ljava/lang/String;I)[C"⟩ : MethodName) method_5_code 4 (some (.array .char)) [] ({ frames := 5, cells := 1, slots := 4, locals := 90 } : Room) Z n0 h0 #[(.ref x), (.int (4 : Int32))] [] (fun v h => ∃ (a : Addr) (kA : ClassId), v = some (.ref a) ∧ h0.size ≤ a ∧ Arv Z h a kA .char 4 [(.int (108 : Int32)), (.int (111 : Int32)), (.int (103 : Int32)), (.int (0 : Int32))] (.int 0)) := by
  refine CN.walk (plainFor_of_name pn3) ho (L0 := #[.val (.ref x), .val (.int (4 : Int32)), .unset, .unset]) (fun m => rfl) ?_
  intro pG e s m below meth cO T hlk hret hnm A0
  have K0 : Keep h0 h0 [] := Keep.refl _ _
  refine f_iloadN A0 d5_0 (pc' := 1) rfl rfl ?_
  refine f_callS A0 d5_1 (pc' := 4) rfl (wd hw 35 rfl) (wd hw 36 rfl) (wd hw 2 rfl) (wd hw 37 rfl) (by decide) pd10 [(.int (4 : Int32))] [] rfl rfl rfl 0 (Nat.le_of_eq rfl) (CN.pay (W := 0) A0 (m_al4 l Z a0 hw h0 n0 A0.old) (wd hw 37 rfl) (wd hw 2 rfl) (by decide) (by decide)) (kc := 1) (ks := 4) (by decide) (by decide) all0 (fun q => nomatch q) fun v287 T287 h287 L287 A287 K287 q287 => ?_
  have Q288 : Keep h0 h287 [] := K0.trans K287 all0
  obtain ⟨b287, kA287, rfl, bg287, V287⟩ := q287
  show Wp pG e below _ T287 (mkF m 4 _ [(.ref b287)])
  refine f_astoreN A287 d5_4 (pc' := 5) rfl rfl (L' := #[.val (.ref x), .val (.int (4 : Int32)), .val (.ref b287), .unset]) rfl ?_
  refine f_aloadN A287 d5_5 (pc' := 6) rfl rfl rfl ?_
  have c289 := (F.keep K287 nin0 nin0)
  have c291 := (F.exa.keep K287)
  refine f_callV A287 (a := x) d5_6 (pc' := 9) rfl (wd hw 18 rfl) (wd hw 19 rfl) (nfS A287 (wd hw 21 rfl)) (wd hw 21 rfl) (wd hw 20 rfl) (by decide) c291 pd11 [] [] rfl rfl rfl 0 (Nat.le_of_eq rfl) (payLen (W := 0) A287 hw (wd hw 6 rfl) c289 O2 P5 (by decide) (by decide)) (kc := 0) (ks := 0) (by decide) (by decide) all0 (fun q => nomatch q) fun v290 T290 h290 L290 A290 K290 q290 => ?_
  obtain ⟨rfl, hh290⟩ := q290
  obtain rfl := hh290.symm
  show Wp pG e below _ T290 (mkF m 9 _ [(.int (3 : Int32))])
  refine f_istoreN A290 d5_9 (pc' := 10) rfl (L' := #[.val (.ref x), .val (.int (4 : Int32)), .val (.ref b287), .val (.int (3 : Int32))]) rfl ?_
  refine f_iloadN A290 d5_10 (pc' := 11) rfl rfl ?_
  refine f_ifN A290 d5_11 ((if0 _ _).trans (tlt (by decide : (0 : Int32) < (3 : Int32))).2.2.2) (pc' := 14) rfl ?_
  refine f_aloadN A290 d5_14 (pc' := 15) rfl rfl rfl ?_
  refine f_iconst A290 d5_15 (pc' := 16) rfl 0 rfl ?_
  refine f_aloadN A290 d5_16 (pc' := 17) rfl rfl rfl ?_
  refine f_iconst A290 d5_17 (pc' := 18) rfl 0 rfl ?_
  refine f_callV A290 (a := x) d5_18 (pc' := 21) rfl (wd hw 39 rfl) (wd hw 40 rfl) (nfS A290 (wd hw 42 rfl)) (wd hw 42 rfl) (wd hw 41 rfl) (by decide) c291 pd12 [(.int (0 : Int32))] [(.int (0 : Int32)), (.ref b287)] rfl rfl rfl 2 (Nat.le_of_eq rfl) (payCh (W := 2) A290 hw (wd hw 6 rfl) c289 (by decide) O2 P5 O4 rG3 0 (Nat.le_of_ble_eq_true rfl) rfl (by decide) (by decide)) (kc := 0) (ks := 0) (by decide) (by decide) all0 (fun q => nomatch q) fun v292 T292 h292 L292 A292 K292 q292 => ?_
  obtain ⟨rfl, hh292⟩ := q292
  obtain rfl := hh292.symm
  show Wp pG e below _ T292 (mkF m 21 _ [(.int (108 : Int32)), (.int (0 : Int32)), (.ref b287)])
  refine f_castore A292 d5_21 (pc' := 22) rfl V287 ⟨by decide, by decide⟩ 0 (by decide) (Nat.le_of_ble_eq_true rfl) (108 : Int32) (by decide) (vs' := [(.int (108 : Int32)), (.int (0 : Int32)), (.int (0 : Int32)), (.int (0 : Int32))]) rfl (Nat.le_trans A0.sz bg287) (fun q => nomatch q) fun T293 h293 A293 K293 V293 => ?_
  have Q294 : Keep h0 h293 [] := Q288.trans K293 (allS (Or.inr (Nat.le_trans K0.1 bg287)) all0)
  refine f_iloadN A293 d5_22 (pc' := 23) rfl rfl ?_
  refine f_iconst A293 d5_23 (pc' := 24) rfl 1 rfl ?_
  refine f_icN A293 d5_24 (tlt (by decide : (1 : Int32) < (3 : Int32))).2.2.2 (pc' := 27) rfl ?_
  refine f_aloadN A293 d5_27 (pc' := 28) rfl rfl rfl ?_
  refine f_iconst A293 d5_28 (pc' := 29) rfl 1 rfl ?_
  refine f_aloadN A293 d5_29 (pc' := 30) rfl rfl rfl ?_
  refine f_iconst A293 d5_30 (pc' := 31) rfl 1 rfl ?_
  have c295 := (c289.keep K293 (ninS (Nat.ne_of_lt (Nat.lt_of_lt_of_le F.lt bg287)) nin0) (ninS (Nat.ne_of_lt (Nat.lt_of_lt_of_le F.lt' bg287)) nin0))
  have c297 := (c291.keep K293)
  refine f_callV A293 (a := x) d5_31 (pc' := 34) rfl (wd hw 39 rfl) (wd hw 40 rfl) (nfS A293 (wd hw 42 rfl)) (wd hw 42 rfl) (wd hw 41 rfl) (by decide) c297 pd12 [(.int (1 : Int32))] [(.int (1 : Int32)), (.ref b287)] rfl rfl rfl 2 (Nat.le_of_eq rfl) (payCh (W := 2) A293 hw (wd hw 6 rfl) c295 (by decide) O2 P5 O4 rG3 1 (Nat.le_of_ble_eq_true rfl) rfl (by decide) (by decide)) (kc := 0) (ks := 0) (by decide) (by decide) all0 (fun q => nomatch q) fun v296 T296 h296 L296 A296 K296 q296 => ?_
  obtain ⟨rfl, hh296⟩ := q296
  obtain rfl := hh296.symm
  show Wp pG e below _ T296 (mkF m 34 _ [(.int (111 : Int32)), (.int (1 : Int32)), (.ref b287)])
  refine f_castore A296 d5_34 (pc' := 35) rfl V293 ⟨by decide, by decide⟩ 1 (by decide) (Nat.le_of_ble_eq_true rfl) (111 : Int32) (by decide) (vs' := [(.int (108 : Int32)), (.int (111 : Int32)), (.int (0 : Int32)), (.int (0 : Int32))]) rfl (Nat.le_trans A0.sz bg287) (fun q => nomatch q) fun T298 h298 A298 K298 V298 => ?_
  have Q299 : Keep h0 h298 [] := Q294.trans K298 (allS (Or.inr (Nat.le_trans K0.1 bg287)) all0)
  refine f_iloadN A298 d5_35 (pc' := 36) rfl rfl ?_
  refine f_iconst A298 d5_36 (pc' := 37) rfl 2 rfl ?_
  refine f_icN A298 d5_37 (tlt (by decide : (2 : Int32) < (3 : Int32))).2.2.2 (pc' := 40) rfl ?_
  refine f_aloadN A298 d5_40 (pc' := 41) rfl rfl rfl ?_
  refine f_iconst A298 d5_41 (pc' := 42) rfl 2 rfl ?_
  refine f_aloadN A298 d5_42 (pc' := 43) rfl rfl rfl ?_
  refine f_iconst A298 d5_43 (pc' := 44) rfl 2 rfl ?_
  have c300 := (c295.keep K298 (ninS (Nat.ne_of_lt (Nat.lt_of_lt_of_le F.lt bg287)) nin0) (ninS (Nat.ne_of_lt (Nat.lt_of_lt_of_le F.lt' bg287)) nin0))
  have c302 := (c297.keep K298)
  refine f_callV A298 (a := x) d5_44 (pc' := 47) rfl (wd hw 39 rfl) (wd hw 40 rfl) (nfS A298 (wd hw 42 rfl)) (wd hw 42 rfl) (wd hw 41 rfl) (by decide) c302 pd12 [(.int (2 : Int32))] [(.int (2 : Int32)), (.ref b287)] rfl rfl rfl 2 (Nat.le_of_eq rfl) (payCh (W := 2) A298 hw (wd hw 6 rfl) c300 (by decide) O2 P5 O4 rG3 2 (Nat.le_of_ble_eq_true rfl) rfl (by decide) (by decide)) (kc := 0) (ks := 0) (by decide) (by decide) all0 (fun q => nomatch q) fun v301 T301 h301 L301 A301 K301 q301 => ?_
  obtain ⟨rfl, hh301⟩ := q301
  obtain rfl := hh301.symm
  show Wp pG e below _ T301 (mkF m 47 _ [(.int (103 : Int32)), (.int (2 : Int32)), (.ref b287)])
  refine f_castore A301 d5_47 (pc' := 48) rfl V298 ⟨by decide, by decide⟩ 2 (by decide) (Nat.le_of_ble_eq_true rfl) (103 : Int32) (by decide) (vs' := [(.int (108 : Int32)), (.int (111 : Int32)), (.int (103 : Int32)), (.int (0 : Int32))]) rfl (Nat.le_trans A0.sz bg287) (fun q => nomatch q) fun T303 h303 A303 K303 V303 => ?_
  have Q304 : Keep h0 h303 [] := Q299.trans K303 (allS (Or.inr (Nat.le_trans K0.1 bg287)) all0)
  refine f_iloadN A303 d5_48 (pc' := 49) rfl rfl ?_
  refine f_iconst A303 d5_49 (pc' := 50) rfl 3 rfl ?_
  refine f_icY A303 d5_50 (flt (by decide : ¬ (3 : Int32) < (3 : Int32))).2.2.2 (pc' := 61) (by decide) (by decide) ?_
  refine f_iloadN A303 d5_61 (pc' := 62) rfl rfl ?_
  refine f_iconst A303 d5_62 (pc' := 63) rfl 4 rfl ?_
  refine f_icY A303 d5_63 (flt (by decide : ¬ (4 : Int32) < (3 : Int32))).2.2.2 (pc' := 74) (by decide) (by decide) ?_
  refine f_aloadN A303 d5_74 (pc' := 75) rfl rfl rfl ?_
  exact f_retRN A303 hlk hret d5_75 rfl rfl (by decide) (by decide) Q304 ⟨b287, kA287, rfl, (Nat.le_trans K0.1 bg287), V303⟩
def byC (b : Int64) (k : Int32) : Int32 := (((b.toUInt64 >>> ((8 * k) &&& 0x3f).toInt64.toUInt64).toInt64) &&& 255).toInt32
theorem byC_rng (b : Int64) (k : Int32) : 0 ≤ (byC b k).toInt ∧ (byC b k).toInt ≤ 255 := by
  unfold byC
  generalize (b.toUInt64 >>> ((8 * k) &&& 0x3f).toInt64.toUInt64).toInt64 = y
  have a := c_maskL y 255 8 (by decide) (by decide); have c := c_l2i (y &&& 255); have d := rng32 (y &&& 255).toInt32
  omega
theorem d23_0 : decode method_6_code 0 = .ok (.lload_n 0, 1) := by decide +kernel
theorem d23_1 : decode method_6_code 1 = .ok (.bipush 8, 2) := by decide +kernel
theorem d23_3 : decode method_6_code 3 = .ok (.iload_n 2, 1) := by decide +kernel
theorem d23_4 : decode method_6_code 4 = .ok (.imul, 1) := by decide +kernel
theorem d23_5 : decode method_6_code 5 = .ok (.lushr, 1) := by decide +kernel
theorem d23_6 : decode method_6_code 6 = .ok (.ldc2_w 46, 3) := by decide +kernel
theorem d23_9 : decode method_6_code 9 = .ok (.land, 1) := by decide +kernel
theorem d23_10 : decode method_6_code 10 = .ok (.l2i, 1) := by decide +kernel
theorem d23_11 : decode method_6_code 11 = .ok (.i2c, 1) := by decide +kernel
theorem d23_12 : decode method_6_code 12 = .ok (.ireturn, 1) := by decide +kernel
set_option maxRecDepth 65536 in
set_option maxHeartbeats 40000000 in
theorem m_dr (l : Launch) (Z : State) (a0 : Array Value) (hw : ∀ d ∈ tables_1, d.before a0 Z = true) (b : Int64) (k c : Int32) (h0 : Heap) (n0 : Nat) (ho : Old Z n0 h0) (hc : byC b k = c) :
    CN l (⟨"com/example/confinement/confinement/policy/VerdictForKeywordPinLaw", "drawn", "(JI)C"⟩ : MethodName) method_6_code 3 (some .char) [] ({ frames := 0, cells := 0, slots := 0, locals := 0 } : Room) Z n0 h0 #[(.long b), (.int k)] [] (fun v h => v = some (.int c) ∧ h = h0) := by
  refine CN.walk (plainFor_of_name pn3) ho (L0 := #[.val (.long b), .second, .val (.int k)]) (fun m => rfl) ?_
  intro pG e s m below meth cO T hlk hret hnm A0
  have K0 : Keep h0 h0 [] := Keep.refl _ _
  have hr := hc ▸ byC_rng b k
  refine f_lloadN A0 d23_0 (pc' := 1) rfl rfl ?_
  refine f_bipush A0 d23_1 (pc' := 3) rfl 8 rfl ?_
  refine f_iloadN A0 d23_3 (pc' := 4) rfl rfl ?_
  refine f_imul A0 d23_4 (pc' := 5) rfl ((8 : Int32) * k) rfl ?_
  refine f_lushr A0 d23_5 (pc' := 6) rfl ((b.toUInt64 >>> (((8 : Int32) * k) &&& 0x3f).toInt64.toUInt64).toInt64) rfl ?_
  refine f_ldc2J A0 d23_6 (pc' := 9) rfl (wd hw 124 rfl) ?_
  refine f_land A0 d23_9 (pc' := 10) rfl (((b.toUInt64 >>> (((8 : Int32) * k) &&& 0x3f).toInt64.toUInt64).toInt64) &&& (255 : Int64)) rfl ?_
  refine f_l2i A0 d23_10 (pc' := 11) rfl c hc ?_
  refine f_i2c A0 d23_11 (pc' := 12) rfl c (chr_id (by omega)) ?_
  exact f_retBN A0 hlk hret d23_12 (by decide) c (nar_id (by omega)) (by decide) (by decide) K0 ⟨rfl, rfl⟩
theorem d22_0 : decode method_7_code 0 = .ok (.iload_n 2, 1) := by decide +kernel
theorem d22_1 : decode method_7_code 1 = .ok (.invokestatic 30, 3) := by decide +kernel
theorem d22_4 : decode method_7_code 4 = .ok (.astore_n 3, 1) := by decide +kernel
theorem d22_5 : decode method_7_code 5 = .ok (.iload_n 2, 1) := by decide +kernel
theorem d22_6 : decode method_7_code 6 = .ok (.ifCond .le 11, 3) := by decide +kernel
theorem d22_17 : decode method_7_code 17 = .ok (.iload_n 2, 1) := by decide +kernel
theorem d22_18 : decode method_7_code 18 = .ok (.iconst 1, 1) := by decide +kernel
theorem d22_19 : decode method_7_code 19 = .ok (.if_icmp .le 11, 3) := by decide +kernel
theorem d22_30 : decode method_7_code 30 = .ok (.iload_n 2, 1) := by decide +kernel
theorem d22_31 : decode method_7_code 31 = .ok (.iconst 2, 1) := by decide +kernel
theorem d22_32 : decode method_7_code 32 = .ok (.if_icmp .le 11, 3) := by decide +kernel
theorem d22_43 : decode method_7_code 43 = .ok (.iload_n 2, 1) := by decide +kernel
theorem d22_44 : decode method_7_code 44 = .ok (.iconst 3, 1) := by decide +kernel
theorem d22_45 : decode method_7_code 45 = .ok (.if_icmp .le 11, 3) := by decide +kernel
theorem d22_56 : decode method_7_code 56 = .ok (.iload_n 2, 1) := by decide +kernel
theorem d22_57 : decode method_7_code 57 = .ok (.iconst 4, 1) := by decide +kernel
theorem d22_58 : decode method_7_code 58 = .ok (.if_icmp .le 11, 3) := by decide +kernel
theorem d22_69 : decode method_7_code 69 = .ok (.iload_n 2, 1) := by decide +kernel
theorem d22_70 : decode method_7_code 70 = .ok (.iconst 5, 1) := by decide +kernel
theorem d22_71 : decode method_7_code 71 = .ok (.if_icmp .le 11, 3) := by decide +kernel
theorem d22_82 : decode method_7_code 82 = .ok (.iload_n 2, 1) := by decide +kernel
theorem d22_83 : decode method_7_code 83 = .ok (.bipush 6, 2) := by decide +kernel
theorem d22_85 : decode method_7_code 85 = .ok (.if_icmp .le 13, 3) := by decide +kernel
theorem d22_98 : decode method_7_code 98 = .ok (.aload_n 3, 1) := by decide +kernel
theorem d22_99 : decode method_7_code 99 = .ok (.areturn, 1) := by decide +kernel
set_option maxRecDepth 65536 in
set_option maxHeartbeats 40000000 in
theorem m_dc0 (l : Launch) (Z : State) (a0 : Array Value) (hw : ∀ d ∈ tables_1, d.before a0 Z = true) (b : Int64) (d0 d1 d2 d3 d4 d5 d6 : Int32) (h0 : Heap) (n0 : Nat) (ho : Old Z n0 h0) (hd0 : byC b 0 = d0) (rd0 : 0 ≤ d0.toInt ∧ d0.toInt ≤ 255) (hd1 : byC b 1 = d1) (rd1 : 0 ≤ d1.toInt ∧ d1.toInt ≤ 255) (hd2 : byC b 2 = d2) (rd2 : 0 ≤ d2.toInt ∧ d2.toInt ≤ 255) (hd3 : byC b 3 = d3) (rd3 : 0 ≤ d3.toInt ∧ d3.toInt ≤ 255) (hd4 : byC b 4 = d4) (rd4 : 0 ≤ d4.toInt ∧ d4.toInt ≤ 255) (hd5 : byC b 5 = d5) (rd5 : 0 ≤ d5.toInt ∧ d5.toInt ≤ 255) (hd6 : byC b 6 = d6) (rd6 : 0 ≤ d6.toInt ∧ d6.toInt ≤ 255) :
    CN l (⟨"com/example/confinement/confinement/policy/VerdictForKeywordPinLaw", "drawnChars", "(JI)[C"⟩ : MethodName) method_7_code 4 (some (.array .char)) [] ({ frames := 1, cells := 1, slots := 0, locals := 20 } : Room) Z n0 h0 #[(.long b), (.int (0 : Int32))] [] (fun v h => ∃ (a : Addr) (kA : ClassId), v = some (.ref a) ∧ h0.size ≤ a ∧ Arv Z h a kA .char 0 [] (.int 0)) := by
  refine CN.walk (plainFor_of_name pn3) ho (L0 := #[.val (.long b), .second, .val (.int (0 : Int32)), .unset]) (fun m => rfl) ?_
  intro pG e s m below meth cO T hlk hret hnm A0
  have K0 : Keep h0 h0 [] := Keep.refl _ _
  refine f_iloadN A0 d22_0 (pc' := 1) rfl rfl ?_
  refine f_callS A0 d22_1 (pc' := 4) rfl (wd hw 35 rfl) (wd hw 36 rfl) (wd hw 2 rfl) (wd hw 37 rfl) (by decide) pd10 [(.int (0 : Int32))] [] rfl rfl rfl 0 (Nat.le_of_eq rfl) (CN.pay (W := 0) A0 (m_al0 l Z a0 hw h0 n0 A0.old) (wd hw 37 rfl) (wd hw 2 rfl) (by decide) (by decide)) (kc := 1) (ks := 0) (by decide) (by decide) all0 (fun q => nomatch q) fun v305 T305 h305 L305 A305 K305 q305 => ?_
  have Q306 : Keep h0 h305 [] := K0.trans K305 all0
  obtain ⟨b305, kA305, rfl, bg305, V305⟩ := q305
  show Wp pG e below _ T305 (mkF m 4 _ [(.ref b305)])
  refine f_astoreN A305 d22_4 (pc' := 5) rfl rfl (L' := #[.val (.long b), .second, .val (.int (0 : Int32)), .val (.ref b305)]) rfl ?_
  refine f_iloadN A305 d22_5 (pc' := 6) rfl rfl ?_
  refine f_ifY A305 d22_6 ((if0 _ _).trans (flt (by decide : ¬ (0 : Int32) < (0 : Int32))).2.2.2) (pc' := 17) (by decide) (by decide) ?_
  refine f_iloadN A305 d22_17 (pc' := 18) rfl rfl ?_
  refine f_iconst A305 d22_18 (pc' := 19) rfl 1 rfl ?_
  refine f_icY A305 d22_19 (flt (by decide : ¬ (1 : Int32) < (0 : Int32))).2.2.2 (pc' := 30) (by decide) (by decide) ?_
  refine f_iloadN A305 d22_30 (pc' := 31) rfl rfl ?_
  refine f_iconst A305 d22_31 (pc' := 32) rfl 2 rfl ?_
  refine f_icY A305 d22_32 (flt (by decide : ¬ (2 : Int32) < (0 : Int32))).2.2.2 (pc' := 43) (by decide) (by decide) ?_
  refine f_iloadN A305 d22_43 (pc' := 44) rfl rfl ?_
  refine f_iconst A305 d22_44 (pc' := 45) rfl 3 rfl ?_
  refine f_icY A305 d22_45 (flt (by decide : ¬ (3 : Int32) < (0 : Int32))).2.2.2 (pc' := 56) (by decide) (by decide) ?_
  refine f_iloadN A305 d22_56 (pc' := 57) rfl rfl ?_
  refine f_iconst A305 d22_57 (pc' := 58) rfl 4 rfl ?_
  refine f_icY A305 d22_58 (flt (by decide : ¬ (4 : Int32) < (0 : Int32))).2.2.2 (pc' := 69) (by decide) (by decide) ?_
  refine f_iloadN A305 d22_69 (pc' := 70) rfl rfl ?_
  refine f_iconst A305 d22_70 (pc' := 71) rfl 5 rfl ?_
  refine f_icY A305 d22_71 (flt (by decide : ¬ (5 : Int32) < (0 : Int32))).2.2.2 (pc' := 82) (by decide) (by decide) ?_
  refine f_iloadN A305 d22_82 (pc' := 83) rfl rfl ?_
  refine f_bipush A305 d22_83 (pc' := 85) rfl 6 rfl ?_
  refine f_icY A305 d22_85 (flt (by decide : ¬ (6 : Int32) < (0 : Int32))).2.2.2 (pc' := 98) (by decide) (by decide) ?_
  refine f_aloadN A305 d22_98 (pc' := 99) rfl rfl rfl ?_
  exact f_retRN A305 hlk hret d22_99 rfl rfl (by decide) (by decide) Q306 ⟨b305, kA305, rfl, (Nat.le_trans K0.1 bg305), V305⟩
theorem d22_9 : decode method_7_code 9 = .ok (.aload_n 3, 1) := by decide +kernel
theorem d22_10 : decode method_7_code 10 = .ok (.iconst 0, 1) := by decide +kernel
theorem d22_11 : decode method_7_code 11 = .ok (.lload_n 0, 1) := by decide +kernel
theorem d22_12 : decode method_7_code 12 = .ok (.iconst 0, 1) := by decide +kernel
theorem d22_13 : decode method_7_code 13 = .ok (.invokestatic 48, 3) := by decide +kernel
theorem pd13 : parseMethodDescriptor "(JI)C" = some ⟨[.long, .int], some .char⟩ := by decide +kernel
theorem d22_16 : decode method_7_code 16 = .ok (.castore, 1) := by decide +kernel
set_option maxRecDepth 65536 in
set_option maxHeartbeats 40000000 in
theorem m_dc1 (l : Launch) (Z : State) (a0 : Array Value) (hw : ∀ d ∈ tables_1, d.before a0 Z = true) (b : Int64) (d0 d1 d2 d3 d4 d5 d6 : Int32) (h0 : Heap) (n0 : Nat) (ho : Old Z n0 h0) (hd0 : byC b 0 = d0) (rd0 : 0 ≤ d0.toInt ∧ d0.toInt ≤ 255) (hd1 : byC b 1 = d1) (rd1 : 0 ≤ d1.toInt ∧ d1.toInt ≤ 255) (hd2 : byC b 2 = d2) (rd2 : 0 ≤ d2.toInt ∧ d2.toInt ≤ 255) (hd3 : byC b 3 = d3) (rd3 : 0 ≤ d3.toInt ∧ d3.toInt ≤ 255) (hd4 : byC b 4 = d4) (rd4 : 0 ≤ d4.toInt ∧ d4.toInt ≤ 255) (hd5 : byC b 5 = d5) (rd5 : 0 ≤ d5.toInt ∧ d5.toInt ≤ 255) (hd6 : byC b 6 = d6) (rd6 : 0 ≤ d6.toInt ∧ d6.toInt ≤ 255) :
    CN l (⟨"com/example/confinement/confinement/policy/VerdictForKeywordPinLaw", "drawnChars", "(JI)[C"⟩ : MethodName) method_7_code 4 (some (.array .char)) [] ({ frames := 1, cells := 1, slots := 1, locals := 20 } : Room) Z n0 h0 #[(.long b), (.int (1 : Int32))] [] (fun v h => ∃ (a : Addr) (kA : ClassId), v = some (.ref a) ∧ h0.size ≤ a ∧ Arv Z h a kA .char 1 [(.int d0)] (.int 0)) := by
  refine CN.walk (plainFor_of_name pn3) ho (L0 := #[.val (.long b), .second, .val (.int (1 : Int32)), .unset]) (fun m => rfl) ?_
  intro pG e s m below meth cO T hlk hret hnm A0
  have K0 : Keep h0 h0 [] := Keep.refl _ _
  refine f_iloadN A0 d22_0 (pc' := 1) rfl rfl ?_
  refine f_callS A0 d22_1 (pc' := 4) rfl (wd hw 35 rfl) (wd hw 36 rfl) (wd hw 2 rfl) (wd hw 37 rfl) (by decide) pd10 [(.int (1 : Int32))] [] rfl rfl rfl 0 (Nat.le_of_eq rfl) (CN.pay (W := 0) A0 (m_al1 l Z a0 hw h0 n0 A0.old) (wd hw 37 rfl) (wd hw 2 rfl) (by decide) (by decide)) (kc := 1) (ks := 1) (by decide) (by decide) all0 (fun q => nomatch q) fun v307 T307 h307 L307 A307 K307 q307 => ?_
  have Q308 : Keep h0 h307 [] := K0.trans K307 all0
  obtain ⟨b307, kA307, rfl, bg307, V307⟩ := q307
  show Wp pG e below _ T307 (mkF m 4 _ [(.ref b307)])
  refine f_astoreN A307 d22_4 (pc' := 5) rfl rfl (L' := #[.val (.long b), .second, .val (.int (1 : Int32)), .val (.ref b307)]) rfl ?_
  refine f_iloadN A307 d22_5 (pc' := 6) rfl rfl ?_
  refine f_ifN A307 d22_6 ((if0 _ _).trans (tlt (by decide : (0 : Int32) < (1 : Int32))).2.2.2) (pc' := 9) rfl ?_
  refine f_aloadN A307 d22_9 (pc' := 10) rfl rfl rfl ?_
  refine f_iconst A307 d22_10 (pc' := 11) rfl 0 rfl ?_
  refine f_lloadN A307 d22_11 (pc' := 12) rfl rfl ?_
  refine f_iconst A307 d22_12 (pc' := 13) rfl 0 rfl ?_
  refine f_callS A307 d22_13 (pc' := 16) rfl (wd hw 121 rfl) (wd hw 122 rfl) (wd hw 2 rfl) (wd hw 123 rfl) (by decide) pd13 [(.long b), (.int (0 : Int32))] [(.int (0 : Int32)), (.ref b307)] rfl rfl rfl 2 (Nat.le_of_eq rfl) (CN.pay (W := 2) A307 (m_dr l Z a0 hw b (0 : Int32) d0 h307 n0 A307.old hd0) (wd hw 123 rfl) (wd hw 2 rfl) (by decide) (by decide)) (kc := 0) (ks := 0) (by decide) (by decide) all0 (fun q => nomatch q) fun v309 T309 h309 L309 A309 K309 q309 => ?_
  obtain ⟨rfl, hh309⟩ := q309
  obtain rfl := hh309.symm
  show Wp pG e below _ T309 (mkF m 16 _ [(.int d0), (.int (0 : Int32)), (.ref b307)])
  refine f_castore A309 d22_16 (pc' := 17) rfl V307 ⟨by decide, by decide⟩ 0 (by decide) (Nat.le_of_ble_eq_true rfl) d0 (nar_id (by omega)) (vs' := [(.int d0)]) rfl (Nat.le_trans A0.sz bg307) (fun q => nomatch q) fun T310 h310 A310 K310 V310 => ?_
  have Q311 : Keep h0 h310 [] := Q308.trans K310 (allS (Or.inr (Nat.le_trans K0.1 bg307)) all0)
  refine f_iloadN A310 d22_17 (pc' := 18) rfl rfl ?_
  refine f_iconst A310 d22_18 (pc' := 19) rfl 1 rfl ?_
  refine f_icY A310 d22_19 (flt (by decide : ¬ (1 : Int32) < (1 : Int32))).2.2.2 (pc' := 30) (by decide) (by decide) ?_
  refine f_iloadN A310 d22_30 (pc' := 31) rfl rfl ?_
  refine f_iconst A310 d22_31 (pc' := 32) rfl 2 rfl ?_
  refine f_icY A310 d22_32 (flt (by decide : ¬ (2 : Int32) < (1 : Int32))).2.2.2 (pc' := 43) (by decide) (by decide) ?_
  refine f_iloadN A310 d22_43 (pc' := 44) rfl rfl ?_
  refine f_iconst A310 d22_44 (pc' := 45) rfl 3 rfl ?_
  refine f_icY A310 d22_45 (flt (by decide : ¬ (3 : Int32) < (1 : Int32))).2.2.2 (pc' := 56) (by decide) (by decide) ?_
  refine f_iloadN A310 d22_56 (pc' := 57) rfl rfl ?_
  refine f_iconst A310 d22_57 (pc' := 58) rfl 4 rfl ?_
  refine f_icY A310 d22_58 (flt (by decide : ¬ (4 : Int32) < (1 : Int32))).2.2.2 (pc' := 69) (by decide) (by decide) ?_
  refine f_iloadN A310 d22_69 (pc' := 70) rfl rfl ?_
  refine f_iconst A310 d22_70 (pc' := 71) rfl 5 rfl ?_
  refine f_icY A310 d22_71 (flt (by decide : ¬ (5 : Int32) < (1 : Int32))).2.2.2 (pc' := 82) (by decide) (by decide) ?_
  refine f_iloadN A310 d22_82 (pc' := 83) rfl rfl ?_
  refine f_bipush A310 d22_83 (pc' := 85) rfl 6 rfl ?_
  refine f_icY A310 d22_85 (flt (by decide : ¬ (6 : Int32) < (1 : Int32))).2.2.2 (pc' := 98) (by decide) (by decide) ?_
  refine f_aloadN A310 d22_98 (pc' := 99) rfl rfl rfl ?_
  exact f_retRN A310 hlk hret d22_99 rfl rfl (by decide) (by decide) Q311 ⟨b307, kA307, rfl, (Nat.le_trans K0.1 bg307), V310⟩
theorem d22_22 : decode method_7_code 22 = .ok (.aload_n 3, 1) := by decide +kernel
theorem d22_23 : decode method_7_code 23 = .ok (.iconst 1, 1) := by decide +kernel
theorem d22_24 : decode method_7_code 24 = .ok (.lload_n 0, 1) := by decide +kernel
theorem d22_25 : decode method_7_code 25 = .ok (.iconst 1, 1) := by decide +kernel
theorem d22_26 : decode method_7_code 26 = .ok (.invokestatic 48, 3) := by decide +kernel
theorem d22_29 : decode method_7_code 29 = .ok (.castore, 1) := by decide +kernel
set_option maxRecDepth 65536 in
set_option maxHeartbeats 40000000 in
theorem m_dc2 (l : Launch) (Z : State) (a0 : Array Value) (hw : ∀ d ∈ tables_1, d.before a0 Z = true) (b : Int64) (d0 d1 d2 d3 d4 d5 d6 : Int32) (h0 : Heap) (n0 : Nat) (ho : Old Z n0 h0) (hd0 : byC b 0 = d0) (rd0 : 0 ≤ d0.toInt ∧ d0.toInt ≤ 255) (hd1 : byC b 1 = d1) (rd1 : 0 ≤ d1.toInt ∧ d1.toInt ≤ 255) (hd2 : byC b 2 = d2) (rd2 : 0 ≤ d2.toInt ∧ d2.toInt ≤ 255) (hd3 : byC b 3 = d3) (rd3 : 0 ≤ d3.toInt ∧ d3.toInt ≤ 255) (hd4 : byC b 4 = d4) (rd4 : 0 ≤ d4.toInt ∧ d4.toInt ≤ 255) (hd5 : byC b 5 = d5) (rd5 : 0 ≤ d5.toInt ∧ d5.toInt ≤ 255) (hd6 : byC b 6 = d6) (rd6 : 0 ≤ d6.toInt ∧ d6.toInt ≤ 255) :
    CN l (⟨"com/example/confinement/confinement/policy/VerdictForKeywordPinLaw", "drawnChars", "(JI)[C"⟩ : MethodName) method_7_code 4 (some (.array .char)) [] ({ frames := 1, cells := 1, slots := 2, locals := 20 } : Room) Z n0 h0 #[(.long b), (.int (2 : Int32))] [] (fun v h => ∃ (a : Addr) (kA : ClassId), v = some (.ref a) ∧ h0.size ≤ a ∧ Arv Z h a kA .char 2 [(.int d0), (.int d1)] (.int 0)) := by
  refine CN.walk (plainFor_of_name pn3) ho (L0 := #[.val (.long b), .second, .val (.int (2 : Int32)), .unset]) (fun m => rfl) ?_
  intro pG e s m below meth cO T hlk hret hnm A0
  have K0 : Keep h0 h0 [] := Keep.refl _ _
  refine f_iloadN A0 d22_0 (pc' := 1) rfl rfl ?_
  refine f_callS A0 d22_1 (pc' := 4) rfl (wd hw 35 rfl) (wd hw 36 rfl) (wd hw 2 rfl) (wd hw 37 rfl) (by decide) pd10 [(.int (2 : Int32))] [] rfl rfl rfl 0 (Nat.le_of_eq rfl) (CN.pay (W := 0) A0 (m_al2 l Z a0 hw h0 n0 A0.old) (wd hw 37 rfl) (wd hw 2 rfl) (by decide) (by decide)) (kc := 1) (ks := 2) (by decide) (by decide) all0 (fun q => nomatch q) fun v312 T312 h312 L312 A312 K312 q312 => ?_
  have Q313 : Keep h0 h312 [] := K0.trans K312 all0
  obtain ⟨b312, kA312, rfl, bg312, V312⟩ := q312
  show Wp pG e below _ T312 (mkF m 4 _ [(.ref b312)])
  refine f_astoreN A312 d22_4 (pc' := 5) rfl rfl (L' := #[.val (.long b), .second, .val (.int (2 : Int32)), .val (.ref b312)]) rfl ?_
  refine f_iloadN A312 d22_5 (pc' := 6) rfl rfl ?_
  refine f_ifN A312 d22_6 ((if0 _ _).trans (tlt (by decide : (0 : Int32) < (2 : Int32))).2.2.2) (pc' := 9) rfl ?_
  refine f_aloadN A312 d22_9 (pc' := 10) rfl rfl rfl ?_
  refine f_iconst A312 d22_10 (pc' := 11) rfl 0 rfl ?_
  refine f_lloadN A312 d22_11 (pc' := 12) rfl rfl ?_
  refine f_iconst A312 d22_12 (pc' := 13) rfl 0 rfl ?_
  refine f_callS A312 d22_13 (pc' := 16) rfl (wd hw 121 rfl) (wd hw 122 rfl) (wd hw 2 rfl) (wd hw 123 rfl) (by decide) pd13 [(.long b), (.int (0 : Int32))] [(.int (0 : Int32)), (.ref b312)] rfl rfl rfl 2 (Nat.le_of_eq rfl) (CN.pay (W := 2) A312 (m_dr l Z a0 hw b (0 : Int32) d0 h312 n0 A312.old hd0) (wd hw 123 rfl) (wd hw 2 rfl) (by decide) (by decide)) (kc := 0) (ks := 0) (by decide) (by decide) all0 (fun q => nomatch q) fun v314 T314 h314 L314 A314 K314 q314 => ?_
  obtain ⟨rfl, hh314⟩ := q314
  obtain rfl := hh314.symm
  show Wp pG e below _ T314 (mkF m 16 _ [(.int d0), (.int (0 : Int32)), (.ref b312)])
  refine f_castore A314 d22_16 (pc' := 17) rfl V312 ⟨by decide, by decide⟩ 0 (by decide) (Nat.le_of_ble_eq_true rfl) d0 (nar_id (by omega)) (vs' := [(.int d0), (.int (0 : Int32))]) rfl (Nat.le_trans A0.sz bg312) (fun q => nomatch q) fun T315 h315 A315 K315 V315 => ?_
  have Q316 : Keep h0 h315 [] := Q313.trans K315 (allS (Or.inr (Nat.le_trans K0.1 bg312)) all0)
  refine f_iloadN A315 d22_17 (pc' := 18) rfl rfl ?_
  refine f_iconst A315 d22_18 (pc' := 19) rfl 1 rfl ?_
  refine f_icN A315 d22_19 (tlt (by decide : (1 : Int32) < (2 : Int32))).2.2.2 (pc' := 22) rfl ?_
  refine f_aloadN A315 d22_22 (pc' := 23) rfl rfl rfl ?_
  refine f_iconst A315 d22_23 (pc' := 24) rfl 1 rfl ?_
  refine f_lloadN A315 d22_24 (pc' := 25) rfl rfl ?_
  refine f_iconst A315 d22_25 (pc' := 26) rfl 1 rfl ?_
  refine f_callS A315 d22_26 (pc' := 29) rfl (wd hw 121 rfl) (wd hw 122 rfl) (wd hw 2 rfl) (wd hw 123 rfl) (by decide) pd13 [(.long b), (.int (1 : Int32))] [(.int (1 : Int32)), (.ref b312)] rfl rfl rfl 2 (Nat.le_of_eq rfl) (CN.pay (W := 2) A315 (m_dr l Z a0 hw b (1 : Int32) d1 h315 n0 A315.old hd1) (wd hw 123 rfl) (wd hw 2 rfl) (by decide) (by decide)) (kc := 0) (ks := 0) (by decide) (by decide) all0 (fun q => nomatch q) fun v317 T317 h317 L317 A317 K317 q317 => ?_
  obtain ⟨rfl, hh317⟩ := q317
  obtain rfl := hh317.symm
  show Wp pG e below _ T317 (mkF m 29 _ [(.int d1), (.int (1 : Int32)), (.ref b312)])
  refine f_castore A317 d22_29 (pc' := 30) rfl V315 ⟨by decide, by decide⟩ 1 (by decide) (Nat.le_of_ble_eq_true rfl) d1 (nar_id (by omega)) (vs' := [(.int d0), (.int d1)]) rfl (Nat.le_trans A0.sz bg312) (fun q => nomatch q) fun T318 h318 A318 K318 V318 => ?_
  have Q319 : Keep h0 h318 [] := Q316.trans K318 (allS (Or.inr (Nat.le_trans K0.1 bg312)) all0)
  refine f_iloadN A318 d22_30 (pc' := 31) rfl rfl ?_
  refine f_iconst A318 d22_31 (pc' := 32) rfl 2 rfl ?_
  refine f_icY A318 d22_32 (flt (by decide : ¬ (2 : Int32) < (2 : Int32))).2.2.2 (pc' := 43) (by decide) (by decide) ?_
  refine f_iloadN A318 d22_43 (pc' := 44) rfl rfl ?_
  refine f_iconst A318 d22_44 (pc' := 45) rfl 3 rfl ?_
  refine f_icY A318 d22_45 (flt (by decide : ¬ (3 : Int32) < (2 : Int32))).2.2.2 (pc' := 56) (by decide) (by decide) ?_
  refine f_iloadN A318 d22_56 (pc' := 57) rfl rfl ?_
  refine f_iconst A318 d22_57 (pc' := 58) rfl 4 rfl ?_
  refine f_icY A318 d22_58 (flt (by decide : ¬ (4 : Int32) < (2 : Int32))).2.2.2 (pc' := 69) (by decide) (by decide) ?_
  refine f_iloadN A318 d22_69 (pc' := 70) rfl rfl ?_
  refine f_iconst A318 d22_70 (pc' := 71) rfl 5 rfl ?_
  refine f_icY A318 d22_71 (flt (by decide : ¬ (5 : Int32) < (2 : Int32))).2.2.2 (pc' := 82) (by decide) (by decide) ?_
  refine f_iloadN A318 d22_82 (pc' := 83) rfl rfl ?_
  refine f_bipush A318 d22_83 (pc' := 85) rfl 6 rfl ?_
  refine f_icY A318 d22_85 (flt (by decide : ¬ (6 : Int32) < (2 : Int32))).2.2.2 (pc' := 98) (by decide) (by decide) ?_
  refine f_aloadN A318 d22_98 (pc' := 99) rfl rfl rfl ?_
  exact f_retRN A318 hlk hret d22_99 rfl rfl (by decide) (by decide) Q319 ⟨b312, kA312, rfl, (Nat.le_trans K0.1 bg312), V318⟩
theorem d22_35 : decode method_7_code 35 = .ok (.aload_n 3, 1) := by decide +kernel
theorem d22_36 : decode method_7_code 36 = .ok (.iconst 2, 1) := by decide +kernel
theorem d22_37 : decode method_7_code 37 = .ok (.lload_n 0, 1) := by decide +kernel
theorem d22_38 : decode method_7_code 38 = .ok (.iconst 2, 1) := by decide +kernel
theorem d22_39 : decode method_7_code 39 = .ok (.invokestatic 48, 3) := by decide +kernel
theorem d22_42 : decode method_7_code 42 = .ok (.castore, 1) := by decide +kernel
set_option maxRecDepth 65536 in
set_option maxHeartbeats 40000000 in
theorem m_dc3 (l : Launch) (Z : State) (a0 : Array Value) (hw : ∀ d ∈ tables_1, d.before a0 Z = true) (b : Int64) (d0 d1 d2 d3 d4 d5 d6 : Int32) (h0 : Heap) (n0 : Nat) (ho : Old Z n0 h0) (hd0 : byC b 0 = d0) (rd0 : 0 ≤ d0.toInt ∧ d0.toInt ≤ 255) (hd1 : byC b 1 = d1) (rd1 : 0 ≤ d1.toInt ∧ d1.toInt ≤ 255) (hd2 : byC b 2 = d2) (rd2 : 0 ≤ d2.toInt ∧ d2.toInt ≤ 255) (hd3 : byC b 3 = d3) (rd3 : 0 ≤ d3.toInt ∧ d3.toInt ≤ 255) (hd4 : byC b 4 = d4) (rd4 : 0 ≤ d4.toInt ∧ d4.toInt ≤ 255) (hd5 : byC b 5 = d5) (rd5 : 0 ≤ d5.toInt ∧ d5.toInt ≤ 255) (hd6 : byC b 6 = d6) (rd6 : 0 ≤ d6.toInt ∧ d6.toInt ≤ 255) :
    CN l (⟨"com/example/confinement/confinement/policy/VerdictForKeywordPinLaw", "drawnChars", "(JI)[C"⟩ : MethodName) method_7_code 4 (some (.array .char)) [] ({ frames := 1, cells := 1, slots := 3, locals := 20 } : Room) Z n0 h0 #[(.long b), (.int (3 : Int32))] [] (fun v h => ∃ (a : Addr) (kA : ClassId), v = some (.ref a) ∧ h0.size ≤ a ∧ Arv Z h a kA .char 3 [(.int d0), (.int d1), (.int d2)] (.int 0)) := by
  refine CN.walk (plainFor_of_name pn3) ho (L0 := #[.val (.long b), .second, .val (.int (3 : Int32)), .unset]) (fun m => rfl) ?_
  intro pG e s m below meth cO T hlk hret hnm A0
  have K0 : Keep h0 h0 [] := Keep.refl _ _
  refine f_iloadN A0 d22_0 (pc' := 1) rfl rfl ?_
  refine f_callS A0 d22_1 (pc' := 4) rfl (wd hw 35 rfl) (wd hw 36 rfl) (wd hw 2 rfl) (wd hw 37 rfl) (by decide) pd10 [(.int (3 : Int32))] [] rfl rfl rfl 0 (Nat.le_of_eq rfl) (CN.pay (W := 0) A0 (m_al3 l Z a0 hw h0 n0 A0.old) (wd hw 37 rfl) (wd hw 2 rfl) (by decide) (by decide)) (kc := 1) (ks := 3) (by decide) (by decide) all0 (fun q => nomatch q) fun v320 T320 h320 L320 A320 K320 q320 => ?_
  have Q321 : Keep h0 h320 [] := K0.trans K320 all0
  obtain ⟨b320, kA320, rfl, bg320, V320⟩ := q320
  show Wp pG e below _ T320 (mkF m 4 _ [(.ref b320)])
  refine f_astoreN A320 d22_4 (pc' := 5) rfl rfl (L' := #[.val (.long b), .second, .val (.int (3 : Int32)), .val (.ref b320)]) rfl ?_
  refine f_iloadN A320 d22_5 (pc' := 6) rfl rfl ?_
  refine f_ifN A320 d22_6 ((if0 _ _).trans (tlt (by decide : (0 : Int32) < (3 : Int32))).2.2.2) (pc' := 9) rfl ?_
  refine f_aloadN A320 d22_9 (pc' := 10) rfl rfl rfl ?_
  refine f_iconst A320 d22_10 (pc' := 11) rfl 0 rfl ?_
  refine f_lloadN A320 d22_11 (pc' := 12) rfl rfl ?_
  refine f_iconst A320 d22_12 (pc' := 13) rfl 0 rfl ?_
  refine f_callS A320 d22_13 (pc' := 16) rfl (wd hw 121 rfl) (wd hw 122 rfl) (wd hw 2 rfl) (wd hw 123 rfl) (by decide) pd13 [(.long b), (.int (0 : Int32))] [(.int (0 : Int32)), (.ref b320)] rfl rfl rfl 2 (Nat.le_of_eq rfl) (CN.pay (W := 2) A320 (m_dr l Z a0 hw b (0 : Int32) d0 h320 n0 A320.old hd0) (wd hw 123 rfl) (wd hw 2 rfl) (by decide) (by decide)) (kc := 0) (ks := 0) (by decide) (by decide) all0 (fun q => nomatch q) fun v322 T322 h322 L322 A322 K322 q322 => ?_
  obtain ⟨rfl, hh322⟩ := q322
  obtain rfl := hh322.symm
  show Wp pG e below _ T322 (mkF m 16 _ [(.int d0), (.int (0 : Int32)), (.ref b320)])
  refine f_castore A322 d22_16 (pc' := 17) rfl V320 ⟨by decide, by decide⟩ 0 (by decide) (Nat.le_of_ble_eq_true rfl) d0 (nar_id (by omega)) (vs' := [(.int d0), (.int (0 : Int32)), (.int (0 : Int32))]) rfl (Nat.le_trans A0.sz bg320) (fun q => nomatch q) fun T323 h323 A323 K323 V323 => ?_
  have Q324 : Keep h0 h323 [] := Q321.trans K323 (allS (Or.inr (Nat.le_trans K0.1 bg320)) all0)
  refine f_iloadN A323 d22_17 (pc' := 18) rfl rfl ?_
  refine f_iconst A323 d22_18 (pc' := 19) rfl 1 rfl ?_
  refine f_icN A323 d22_19 (tlt (by decide : (1 : Int32) < (3 : Int32))).2.2.2 (pc' := 22) rfl ?_
  refine f_aloadN A323 d22_22 (pc' := 23) rfl rfl rfl ?_
  refine f_iconst A323 d22_23 (pc' := 24) rfl 1 rfl ?_
  refine f_lloadN A323 d22_24 (pc' := 25) rfl rfl ?_
  refine f_iconst A323 d22_25 (pc' := 26) rfl 1 rfl ?_
  refine f_callS A323 d22_26 (pc' := 29) rfl (wd hw 121 rfl) (wd hw 122 rfl) (wd hw 2 rfl) (wd hw 123 rfl) (by decide) pd13 [(.long b), (.int (1 : Int32))] [(.int (1 : Int32)), (.ref b320)] rfl rfl rfl 2 (Nat.le_of_eq rfl) (CN.pay (W := 2) A323 (m_dr l Z a0 hw b (1 : Int32) d1 h323 n0 A323.old hd1) (wd hw 123 rfl) (wd hw 2 rfl) (by decide) (by decide)) (kc := 0) (ks := 0) (by decide) (by decide) all0 (fun q => nomatch q) fun v325 T325 h325 L325 A325 K325 q325 => ?_
  obtain ⟨rfl, hh325⟩ := q325
  obtain rfl := hh325.symm
  show Wp pG e below _ T325 (mkF m 29 _ [(.int d1), (.int (1 : Int32)), (.ref b320)])
  refine f_castore A325 d22_29 (pc' := 30) rfl V323 ⟨by decide, by decide⟩ 1 (by decide) (Nat.le_of_ble_eq_true rfl) d1 (nar_id (by omega)) (vs' := [(.int d0), (.int d1), (.int (0 : Int32))]) rfl (Nat.le_trans A0.sz bg320) (fun q => nomatch q) fun T326 h326 A326 K326 V326 => ?_
  have Q327 : Keep h0 h326 [] := Q324.trans K326 (allS (Or.inr (Nat.le_trans K0.1 bg320)) all0)
  refine f_iloadN A326 d22_30 (pc' := 31) rfl rfl ?_
  refine f_iconst A326 d22_31 (pc' := 32) rfl 2 rfl ?_
  refine f_icN A326 d22_32 (tlt (by decide : (2 : Int32) < (3 : Int32))).2.2.2 (pc' := 35) rfl ?_
  refine f_aloadN A326 d22_35 (pc' := 36) rfl rfl rfl ?_
  refine f_iconst A326 d22_36 (pc' := 37) rfl 2 rfl ?_
  refine f_lloadN A326 d22_37 (pc' := 38) rfl rfl ?_
  refine f_iconst A326 d22_38 (pc' := 39) rfl 2 rfl ?_
  refine f_callS A326 d22_39 (pc' := 42) rfl (wd hw 121 rfl) (wd hw 122 rfl) (wd hw 2 rfl) (wd hw 123 rfl) (by decide) pd13 [(.long b), (.int (2 : Int32))] [(.int (2 : Int32)), (.ref b320)] rfl rfl rfl 2 (Nat.le_of_eq rfl) (CN.pay (W := 2) A326 (m_dr l Z a0 hw b (2 : Int32) d2 h326 n0 A326.old hd2) (wd hw 123 rfl) (wd hw 2 rfl) (by decide) (by decide)) (kc := 0) (ks := 0) (by decide) (by decide) all0 (fun q => nomatch q) fun v328 T328 h328 L328 A328 K328 q328 => ?_
  obtain ⟨rfl, hh328⟩ := q328
  obtain rfl := hh328.symm
  show Wp pG e below _ T328 (mkF m 42 _ [(.int d2), (.int (2 : Int32)), (.ref b320)])
  refine f_castore A328 d22_42 (pc' := 43) rfl V326 ⟨by decide, by decide⟩ 2 (by decide) (Nat.le_of_ble_eq_true rfl) d2 (nar_id (by omega)) (vs' := [(.int d0), (.int d1), (.int d2)]) rfl (Nat.le_trans A0.sz bg320) (fun q => nomatch q) fun T329 h329 A329 K329 V329 => ?_
  have Q330 : Keep h0 h329 [] := Q327.trans K329 (allS (Or.inr (Nat.le_trans K0.1 bg320)) all0)
  refine f_iloadN A329 d22_43 (pc' := 44) rfl rfl ?_
  refine f_iconst A329 d22_44 (pc' := 45) rfl 3 rfl ?_
  refine f_icY A329 d22_45 (flt (by decide : ¬ (3 : Int32) < (3 : Int32))).2.2.2 (pc' := 56) (by decide) (by decide) ?_
  refine f_iloadN A329 d22_56 (pc' := 57) rfl rfl ?_
  refine f_iconst A329 d22_57 (pc' := 58) rfl 4 rfl ?_
  refine f_icY A329 d22_58 (flt (by decide : ¬ (4 : Int32) < (3 : Int32))).2.2.2 (pc' := 69) (by decide) (by decide) ?_
  refine f_iloadN A329 d22_69 (pc' := 70) rfl rfl ?_
  refine f_iconst A329 d22_70 (pc' := 71) rfl 5 rfl ?_
  refine f_icY A329 d22_71 (flt (by decide : ¬ (5 : Int32) < (3 : Int32))).2.2.2 (pc' := 82) (by decide) (by decide) ?_
  refine f_iloadN A329 d22_82 (pc' := 83) rfl rfl ?_
  refine f_bipush A329 d22_83 (pc' := 85) rfl 6 rfl ?_
  refine f_icY A329 d22_85 (flt (by decide : ¬ (6 : Int32) < (3 : Int32))).2.2.2 (pc' := 98) (by decide) (by decide) ?_
  refine f_aloadN A329 d22_98 (pc' := 99) rfl rfl rfl ?_
  exact f_retRN A329 hlk hret d22_99 rfl rfl (by decide) (by decide) Q330 ⟨b320, kA320, rfl, (Nat.le_trans K0.1 bg320), V329⟩
theorem d22_48 : decode method_7_code 48 = .ok (.aload_n 3, 1) := by decide +kernel
theorem d22_49 : decode method_7_code 49 = .ok (.iconst 3, 1) := by decide +kernel
theorem d22_50 : decode method_7_code 50 = .ok (.lload_n 0, 1) := by decide +kernel
theorem d22_51 : decode method_7_code 51 = .ok (.iconst 3, 1) := by decide +kernel
theorem d22_52 : decode method_7_code 52 = .ok (.invokestatic 48, 3) := by decide +kernel
theorem d22_55 : decode method_7_code 55 = .ok (.castore, 1) := by decide +kernel
set_option maxRecDepth 65536 in
set_option maxHeartbeats 40000000 in
theorem m_dc4 (l : Launch) (Z : State) (a0 : Array Value) (hw : ∀ d ∈ tables_1, d.before a0 Z = true) (b : Int64) (d0 d1 d2 d3 d4 d5 d6 : Int32) (h0 : Heap) (n0 : Nat) (ho : Old Z n0 h0) (hd0 : byC b 0 = d0) (rd0 : 0 ≤ d0.toInt ∧ d0.toInt ≤ 255) (hd1 : byC b 1 = d1) (rd1 : 0 ≤ d1.toInt ∧ d1.toInt ≤ 255) (hd2 : byC b 2 = d2) (rd2 : 0 ≤ d2.toInt ∧ d2.toInt ≤ 255) (hd3 : byC b 3 = d3) (rd3 : 0 ≤ d3.toInt ∧ d3.toInt ≤ 255) (hd4 : byC b 4 = d4) (rd4 : 0 ≤ d4.toInt ∧ d4.toInt ≤ 255) (hd5 : byC b 5 = d5) (rd5 : 0 ≤ d5.toInt ∧ d5.toInt ≤ 255) (hd6 : byC b 6 = d6) (rd6 : 0 ≤ d6.toInt ∧ d6.toInt ≤ 255) :
    CN l (⟨"com/example/confinement/confinement/policy/VerdictForKeywordPinLaw", "drawnChars", "(JI)[C"⟩ : MethodName) method_7_code 4 (some (.array .char)) [] ({ frames := 1, cells := 1, slots := 4, locals := 20 } : Room) Z n0 h0 #[(.long b), (.int (4 : Int32))] [] (fun v h => ∃ (a : Addr) (kA : ClassId), v = some (.ref a) ∧ h0.size ≤ a ∧ Arv Z h a kA .char 4 [(.int d0), (.int d1), (.int d2), (.int d3)] (.int 0)) := by
  refine CN.walk (plainFor_of_name pn3) ho (L0 := #[.val (.long b), .second, .val (.int (4 : Int32)), .unset]) (fun m => rfl) ?_
  intro pG e s m below meth cO T hlk hret hnm A0
  have K0 : Keep h0 h0 [] := Keep.refl _ _
  refine f_iloadN A0 d22_0 (pc' := 1) rfl rfl ?_
  refine f_callS A0 d22_1 (pc' := 4) rfl (wd hw 35 rfl) (wd hw 36 rfl) (wd hw 2 rfl) (wd hw 37 rfl) (by decide) pd10 [(.int (4 : Int32))] [] rfl rfl rfl 0 (Nat.le_of_eq rfl) (CN.pay (W := 0) A0 (m_al4 l Z a0 hw h0 n0 A0.old) (wd hw 37 rfl) (wd hw 2 rfl) (by decide) (by decide)) (kc := 1) (ks := 4) (by decide) (by decide) all0 (fun q => nomatch q) fun v331 T331 h331 L331 A331 K331 q331 => ?_
  have Q332 : Keep h0 h331 [] := K0.trans K331 all0
  obtain ⟨b331, kA331, rfl, bg331, V331⟩ := q331
  show Wp pG e below _ T331 (mkF m 4 _ [(.ref b331)])
  refine f_astoreN A331 d22_4 (pc' := 5) rfl rfl (L' := #[.val (.long b), .second, .val (.int (4 : Int32)), .val (.ref b331)]) rfl ?_
  refine f_iloadN A331 d22_5 (pc' := 6) rfl rfl ?_
  refine f_ifN A331 d22_6 ((if0 _ _).trans (tlt (by decide : (0 : Int32) < (4 : Int32))).2.2.2) (pc' := 9) rfl ?_
  refine f_aloadN A331 d22_9 (pc' := 10) rfl rfl rfl ?_
  refine f_iconst A331 d22_10 (pc' := 11) rfl 0 rfl ?_
  refine f_lloadN A331 d22_11 (pc' := 12) rfl rfl ?_
  refine f_iconst A331 d22_12 (pc' := 13) rfl 0 rfl ?_
  refine f_callS A331 d22_13 (pc' := 16) rfl (wd hw 121 rfl) (wd hw 122 rfl) (wd hw 2 rfl) (wd hw 123 rfl) (by decide) pd13 [(.long b), (.int (0 : Int32))] [(.int (0 : Int32)), (.ref b331)] rfl rfl rfl 2 (Nat.le_of_eq rfl) (CN.pay (W := 2) A331 (m_dr l Z a0 hw b (0 : Int32) d0 h331 n0 A331.old hd0) (wd hw 123 rfl) (wd hw 2 rfl) (by decide) (by decide)) (kc := 0) (ks := 0) (by decide) (by decide) all0 (fun q => nomatch q) fun v333 T333 h333 L333 A333 K333 q333 => ?_
  obtain ⟨rfl, hh333⟩ := q333
  obtain rfl := hh333.symm
  show Wp pG e below _ T333 (mkF m 16 _ [(.int d0), (.int (0 : Int32)), (.ref b331)])
  refine f_castore A333 d22_16 (pc' := 17) rfl V331 ⟨by decide, by decide⟩ 0 (by decide) (Nat.le_of_ble_eq_true rfl) d0 (nar_id (by omega)) (vs' := [(.int d0), (.int (0 : Int32)), (.int (0 : Int32)), (.int (0 : Int32))]) rfl (Nat.le_trans A0.sz bg331) (fun q => nomatch q) fun T334 h334 A334 K334 V334 => ?_
  have Q335 : Keep h0 h334 [] := Q332.trans K334 (allS (Or.inr (Nat.le_trans K0.1 bg331)) all0)
  refine f_iloadN A334 d22_17 (pc' := 18) rfl rfl ?_
  refine f_iconst A334 d22_18 (pc' := 19) rfl 1 rfl ?_
  refine f_icN A334 d22_19 (tlt (by decide : (1 : Int32) < (4 : Int32))).2.2.2 (pc' := 22) rfl ?_
  refine f_aloadN A334 d22_22 (pc' := 23) rfl rfl rfl ?_
  refine f_iconst A334 d22_23 (pc' := 24) rfl 1 rfl ?_
  refine f_lloadN A334 d22_24 (pc' := 25) rfl rfl ?_
  refine f_iconst A334 d22_25 (pc' := 26) rfl 1 rfl ?_
  refine f_callS A334 d22_26 (pc' := 29) rfl (wd hw 121 rfl) (wd hw 122 rfl) (wd hw 2 rfl) (wd hw 123 rfl) (by decide) pd13 [(.long b), (.int (1 : Int32))] [(.int (1 : Int32)), (.ref b331)] rfl rfl rfl 2 (Nat.le_of_eq rfl) (CN.pay (W := 2) A334 (m_dr l Z a0 hw b (1 : Int32) d1 h334 n0 A334.old hd1) (wd hw 123 rfl) (wd hw 2 rfl) (by decide) (by decide)) (kc := 0) (ks := 0) (by decide) (by decide) all0 (fun q => nomatch q) fun v336 T336 h336 L336 A336 K336 q336 => ?_
  obtain ⟨rfl, hh336⟩ := q336
  obtain rfl := hh336.symm
  show Wp pG e below _ T336 (mkF m 29 _ [(.int d1), (.int (1 : Int32)), (.ref b331)])
  refine f_castore A336 d22_29 (pc' := 30) rfl V334 ⟨by decide, by decide⟩ 1 (by decide) (Nat.le_of_ble_eq_true rfl) d1 (nar_id (by omega)) (vs' := [(.int d0), (.int d1), (.int (0 : Int32)), (.int (0 : Int32))]) rfl (Nat.le_trans A0.sz bg331) (fun q => nomatch q) fun T337 h337 A337 K337 V337 => ?_
  have Q338 : Keep h0 h337 [] := Q335.trans K337 (allS (Or.inr (Nat.le_trans K0.1 bg331)) all0)
  refine f_iloadN A337 d22_30 (pc' := 31) rfl rfl ?_
  refine f_iconst A337 d22_31 (pc' := 32) rfl 2 rfl ?_
  refine f_icN A337 d22_32 (tlt (by decide : (2 : Int32) < (4 : Int32))).2.2.2 (pc' := 35) rfl ?_
  refine f_aloadN A337 d22_35 (pc' := 36) rfl rfl rfl ?_
  refine f_iconst A337 d22_36 (pc' := 37) rfl 2 rfl ?_
  refine f_lloadN A337 d22_37 (pc' := 38) rfl rfl ?_
  refine f_iconst A337 d22_38 (pc' := 39) rfl 2 rfl ?_
  refine f_callS A337 d22_39 (pc' := 42) rfl (wd hw 121 rfl) (wd hw 122 rfl) (wd hw 2 rfl) (wd hw 123 rfl) (by decide) pd13 [(.long b), (.int (2 : Int32))] [(.int (2 : Int32)), (.ref b331)] rfl rfl rfl 2 (Nat.le_of_eq rfl) (CN.pay (W := 2) A337 (m_dr l Z a0 hw b (2 : Int32) d2 h337 n0 A337.old hd2) (wd hw 123 rfl) (wd hw 2 rfl) (by decide) (by decide)) (kc := 0) (ks := 0) (by decide) (by decide) all0 (fun q => nomatch q) fun v339 T339 h339 L339 A339 K339 q339 => ?_
  obtain ⟨rfl, hh339⟩ := q339
  obtain rfl := hh339.symm
  show Wp pG e below _ T339 (mkF m 42 _ [(.int d2), (.int (2 : Int32)), (.ref b331)])
  refine f_castore A339 d22_42 (pc' := 43) rfl V337 ⟨by decide, by decide⟩ 2 (by decide) (Nat.le_of_ble_eq_true rfl) d2 (nar_id (by omega)) (vs' := [(.int d0), (.int d1), (.int d2), (.int (0 : Int32))]) rfl (Nat.le_trans A0.sz bg331) (fun q => nomatch q) fun T340 h340 A340 K340 V340 => ?_
  have Q341 : Keep h0 h340 [] := Q338.trans K340 (allS (Or.inr (Nat.le_trans K0.1 bg331)) all0)
  refine f_iloadN A340 d22_43 (pc' := 44) rfl rfl ?_
  refine f_iconst A340 d22_44 (pc' := 45) rfl 3 rfl ?_
  refine f_icN A340 d22_45 (tlt (by decide : (3 : Int32) < (4 : Int32))).2.2.2 (pc' := 48) rfl ?_
  refine f_aloadN A340 d22_48 (pc' := 49) rfl rfl rfl ?_
  refine f_iconst A340 d22_49 (pc' := 50) rfl 3 rfl ?_
  refine f_lloadN A340 d22_50 (pc' := 51) rfl rfl ?_
  refine f_iconst A340 d22_51 (pc' := 52) rfl 3 rfl ?_
  refine f_callS A340 d22_52 (pc' := 55) rfl (wd hw 121 rfl) (wd hw 122 rfl) (wd hw 2 rfl) (wd hw 123 rfl) (by decide) pd13 [(.long b), (.int (3 : Int32))] [(.int (3 : Int32)), (.ref b331)] rfl rfl rfl 2 (Nat.le_of_eq rfl) (CN.pay (W := 2) A340 (m_dr l Z a0 hw b (3 : Int32) d3 h340 n0 A340.old hd3) (wd hw 123 rfl) (wd hw 2 rfl) (by decide) (by decide)) (kc := 0) (ks := 0) (by decide) (by decide) all0 (fun q => nomatch q) fun v342 T342 h342 L342 A342 K342 q342 => ?_
  obtain ⟨rfl, hh342⟩ := q342
  obtain rfl := hh342.symm
  show Wp pG e below _ T342 (mkF m 55 _ [(.int d3), (.int (3 : Int32)), (.ref b331)])
  refine f_castore A342 d22_55 (pc' := 56) rfl V340 ⟨by decide, by decide⟩ 3 (by decide) (Nat.le_of_ble_eq_true rfl) d3 (nar_id (by omega)) (vs' := [(.int d0), (.int d1), (.int d2), (.int d3)]) rfl (Nat.le_trans A0.sz bg331) (fun q => nomatch q) fun T343 h343 A343 K343 V343 => ?_
  have Q344 : Keep h0 h343 [] := Q341.trans K343 (allS (Or.inr (Nat.le_trans K0.1 bg331)) all0)
  refine f_iloadN A343 d22_56 (pc' := 57) rfl rfl ?_
  refine f_iconst A343 d22_57 (pc' := 58) rfl 4 rfl ?_
  refine f_icY A343 d22_58 (flt (by decide : ¬ (4 : Int32) < (4 : Int32))).2.2.2 (pc' := 69) (by decide) (by decide) ?_
  refine f_iloadN A343 d22_69 (pc' := 70) rfl rfl ?_
  refine f_iconst A343 d22_70 (pc' := 71) rfl 5 rfl ?_
  refine f_icY A343 d22_71 (flt (by decide : ¬ (5 : Int32) < (4 : Int32))).2.2.2 (pc' := 82) (by decide) (by decide) ?_
  refine f_iloadN A343 d22_82 (pc' := 83) rfl rfl ?_
  refine f_bipush A343 d22_83 (pc' := 85) rfl 6 rfl ?_
  refine f_icY A343 d22_85 (flt (by decide : ¬ (6 : Int32) < (4 : Int32))).2.2.2 (pc' := 98) (by decide) (by decide) ?_
  refine f_aloadN A343 d22_98 (pc' := 99) rfl rfl rfl ?_
  exact f_retRN A343 hlk hret d22_99 rfl rfl (by decide) (by decide) Q344 ⟨b331, kA331, rfl, (Nat.le_trans K0.1 bg331), V343⟩
theorem d22_61 : decode method_7_code 61 = .ok (.aload_n 3, 1) := by decide +kernel
theorem d22_62 : decode method_7_code 62 = .ok (.iconst 4, 1) := by decide +kernel
theorem d22_63 : decode method_7_code 63 = .ok (.lload_n 0, 1) := by decide +kernel
theorem d22_64 : decode method_7_code 64 = .ok (.iconst 4, 1) := by decide +kernel
theorem d22_65 : decode method_7_code 65 = .ok (.invokestatic 48, 3) := by decide +kernel
theorem d22_68 : decode method_7_code 68 = .ok (.castore, 1) := by decide +kernel
set_option maxRecDepth 65536 in
set_option maxHeartbeats 40000000 in
theorem m_dc5 (l : Launch) (Z : State) (a0 : Array Value) (hw : ∀ d ∈ tables_1, d.before a0 Z = true) (b : Int64) (d0 d1 d2 d3 d4 d5 d6 : Int32) (h0 : Heap) (n0 : Nat) (ho : Old Z n0 h0) (hd0 : byC b 0 = d0) (rd0 : 0 ≤ d0.toInt ∧ d0.toInt ≤ 255) (hd1 : byC b 1 = d1) (rd1 : 0 ≤ d1.toInt ∧ d1.toInt ≤ 255) (hd2 : byC b 2 = d2) (rd2 : 0 ≤ d2.toInt ∧ d2.toInt ≤ 255) (hd3 : byC b 3 = d3) (rd3 : 0 ≤ d3.toInt ∧ d3.toInt ≤ 255) (hd4 : byC b 4 = d4) (rd4 : 0 ≤ d4.toInt ∧ d4.toInt ≤ 255) (hd5 : byC b 5 = d5) (rd5 : 0 ≤ d5.toInt ∧ d5.toInt ≤ 255) (hd6 : byC b 6 = d6) (rd6 : 0 ≤ d6.toInt ∧ d6.toInt ≤ 255) :
    CN l (⟨"com/example/confinement/confinement/policy/VerdictForKeywordPinLaw", "drawnChars", "(JI)[C"⟩ : MethodName) method_7_code 4 (some (.array .char)) [] ({ frames := 1, cells := 1, slots := 5, locals := 20 } : Room) Z n0 h0 #[(.long b), (.int (5 : Int32))] [] (fun v h => ∃ (a : Addr) (kA : ClassId), v = some (.ref a) ∧ h0.size ≤ a ∧ Arv Z h a kA .char 5 [(.int d0), (.int d1), (.int d2), (.int d3), (.int d4)] (.int 0)) := by
  refine CN.walk (plainFor_of_name pn3) ho (L0 := #[.val (.long b), .second, .val (.int (5 : Int32)), .unset]) (fun m => rfl) ?_
  intro pG e s m below meth cO T hlk hret hnm A0
  have K0 : Keep h0 h0 [] := Keep.refl _ _
  refine f_iloadN A0 d22_0 (pc' := 1) rfl rfl ?_
  refine f_callS A0 d22_1 (pc' := 4) rfl (wd hw 35 rfl) (wd hw 36 rfl) (wd hw 2 rfl) (wd hw 37 rfl) (by decide) pd10 [(.int (5 : Int32))] [] rfl rfl rfl 0 (Nat.le_of_eq rfl) (CN.pay (W := 0) A0 (m_al5 l Z a0 hw h0 n0 A0.old) (wd hw 37 rfl) (wd hw 2 rfl) (by decide) (by decide)) (kc := 1) (ks := 5) (by decide) (by decide) all0 (fun q => nomatch q) fun v345 T345 h345 L345 A345 K345 q345 => ?_
  have Q346 : Keep h0 h345 [] := K0.trans K345 all0
  obtain ⟨b345, kA345, rfl, bg345, V345⟩ := q345
  show Wp pG e below _ T345 (mkF m 4 _ [(.ref b345)])
  refine f_astoreN A345 d22_4 (pc' := 5) rfl rfl (L' := #[.val (.long b), .second, .val (.int (5 : Int32)), .val (.ref b345)]) rfl ?_
  refine f_iloadN A345 d22_5 (pc' := 6) rfl rfl ?_
  refine f_ifN A345 d22_6 ((if0 _ _).trans (tlt (by decide : (0 : Int32) < (5 : Int32))).2.2.2) (pc' := 9) rfl ?_
  refine f_aloadN A345 d22_9 (pc' := 10) rfl rfl rfl ?_
  refine f_iconst A345 d22_10 (pc' := 11) rfl 0 rfl ?_
  refine f_lloadN A345 d22_11 (pc' := 12) rfl rfl ?_
  refine f_iconst A345 d22_12 (pc' := 13) rfl 0 rfl ?_
  refine f_callS A345 d22_13 (pc' := 16) rfl (wd hw 121 rfl) (wd hw 122 rfl) (wd hw 2 rfl) (wd hw 123 rfl) (by decide) pd13 [(.long b), (.int (0 : Int32))] [(.int (0 : Int32)), (.ref b345)] rfl rfl rfl 2 (Nat.le_of_eq rfl) (CN.pay (W := 2) A345 (m_dr l Z a0 hw b (0 : Int32) d0 h345 n0 A345.old hd0) (wd hw 123 rfl) (wd hw 2 rfl) (by decide) (by decide)) (kc := 0) (ks := 0) (by decide) (by decide) all0 (fun q => nomatch q) fun v347 T347 h347 L347 A347 K347 q347 => ?_
  obtain ⟨rfl, hh347⟩ := q347
  obtain rfl := hh347.symm
  show Wp pG e below _ T347 (mkF m 16 _ [(.int d0), (.int (0 : Int32)), (.ref b345)])
  refine f_castore A347 d22_16 (pc' := 17) rfl V345 ⟨by decide, by decide⟩ 0 (by decide) (Nat.le_of_ble_eq_true rfl) d0 (nar_id (by omega)) (vs' := [(.int d0), (.int (0 : Int32)), (.int (0 : Int32)), (.int (0 : Int32)), (.int (0 : Int32))]) rfl (Nat.le_trans A0.sz bg345) (fun q => nomatch q) fun T348 h348 A348 K348 V348 => ?_
  have Q349 : Keep h0 h348 [] := Q346.trans K348 (allS (Or.inr (Nat.le_trans K0.1 bg345)) all0)
  refine f_iloadN A348 d22_17 (pc' := 18) rfl rfl ?_
  refine f_iconst A348 d22_18 (pc' := 19) rfl 1 rfl ?_
  refine f_icN A348 d22_19 (tlt (by decide : (1 : Int32) < (5 : Int32))).2.2.2 (pc' := 22) rfl ?_
  refine f_aloadN A348 d22_22 (pc' := 23) rfl rfl rfl ?_
  refine f_iconst A348 d22_23 (pc' := 24) rfl 1 rfl ?_
  refine f_lloadN A348 d22_24 (pc' := 25) rfl rfl ?_
  refine f_iconst A348 d22_25 (pc' := 26) rfl 1 rfl ?_
  refine f_callS A348 d22_26 (pc' := 29) rfl (wd hw 121 rfl) (wd hw 122 rfl) (wd hw 2 rfl) (wd hw 123 rfl) (by decide) pd13 [(.long b), (.int (1 : Int32))] [(.int (1 : Int32)), (.ref b345)] rfl rfl rfl 2 (Nat.le_of_eq rfl) (CN.pay (W := 2) A348 (m_dr l Z a0 hw b (1 : Int32) d1 h348 n0 A348.old hd1) (wd hw 123 rfl) (wd hw 2 rfl) (by decide) (by decide)) (kc := 0) (ks := 0) (by decide) (by decide) all0 (fun q => nomatch q) fun v350 T350 h350 L350 A350 K350 q350 => ?_
  obtain ⟨rfl, hh350⟩ := q350
  obtain rfl := hh350.symm
  show Wp pG e below _ T350 (mkF m 29 _ [(.int d1), (.int (1 : Int32)), (.ref b345)])
  refine f_castore A350 d22_29 (pc' := 30) rfl V348 ⟨by decide, by decide⟩ 1 (by decide) (Nat.le_of_ble_eq_true rfl) d1 (nar_id (by omega)) (vs' := [(.int d0), (.int d1), (.int (0 : Int32)), (.int (0 : Int32)), (.int (0 : Int32))]) rfl (Nat.le_trans A0.sz bg345) (fun q => nomatch q) fun T351 h351 A351 K351 V351 => ?_
  have Q352 : Keep h0 h351 [] := Q349.trans K351 (allS (Or.inr (Nat.le_trans K0.1 bg345)) all0)
  refine f_iloadN A351 d22_30 (pc' := 31) rfl rfl ?_
  refine f_iconst A351 d22_31 (pc' := 32) rfl 2 rfl ?_
  refine f_icN A351 d22_32 (tlt (by decide : (2 : Int32) < (5 : Int32))).2.2.2 (pc' := 35) rfl ?_
  refine f_aloadN A351 d22_35 (pc' := 36) rfl rfl rfl ?_
  refine f_iconst A351 d22_36 (pc' := 37) rfl 2 rfl ?_
  refine f_lloadN A351 d22_37 (pc' := 38) rfl rfl ?_
  refine f_iconst A351 d22_38 (pc' := 39) rfl 2 rfl ?_
  refine f_callS A351 d22_39 (pc' := 42) rfl (wd hw 121 rfl) (wd hw 122 rfl) (wd hw 2 rfl) (wd hw 123 rfl) (by decide) pd13 [(.long b), (.int (2 : Int32))] [(.int (2 : Int32)), (.ref b345)] rfl rfl rfl 2 (Nat.le_of_eq rfl) (CN.pay (W := 2) A351 (m_dr l Z a0 hw b (2 : Int32) d2 h351 n0 A351.old hd2) (wd hw 123 rfl) (wd hw 2 rfl) (by decide) (by decide)) (kc := 0) (ks := 0) (by decide) (by decide) all0 (fun q => nomatch q) fun v353 T353 h353 L353 A353 K353 q353 => ?_
  obtain ⟨rfl, hh353⟩ := q353
  obtain rfl := hh353.symm
  show Wp pG e below _ T353 (mkF m 42 _ [(.int d2), (.int (2 : Int32)), (.ref b345)])
  refine f_castore A353 d22_42 (pc' := 43) rfl V351 ⟨by decide, by decide⟩ 2 (by decide) (Nat.le_of_ble_eq_true rfl) d2 (nar_id (by omega)) (vs' := [(.int d0), (.int d1), (.int d2), (.int (0 : Int32)), (.int (0 : Int32))]) rfl (Nat.le_trans A0.sz bg345) (fun q => nomatch q) fun T354 h354 A354 K354 V354 => ?_
  have Q355 : Keep h0 h354 [] := Q352.trans K354 (allS (Or.inr (Nat.le_trans K0.1 bg345)) all0)
  refine f_iloadN A354 d22_43 (pc' := 44) rfl rfl ?_
  refine f_iconst A354 d22_44 (pc' := 45) rfl 3 rfl ?_
  refine f_icN A354 d22_45 (tlt (by decide : (3 : Int32) < (5 : Int32))).2.2.2 (pc' := 48) rfl ?_
  refine f_aloadN A354 d22_48 (pc' := 49) rfl rfl rfl ?_
  refine f_iconst A354 d22_49 (pc' := 50) rfl 3 rfl ?_
  refine f_lloadN A354 d22_50 (pc' := 51) rfl rfl ?_
  refine f_iconst A354 d22_51 (pc' := 52) rfl 3 rfl ?_
  refine f_callS A354 d22_52 (pc' := 55) rfl (wd hw 121 rfl) (wd hw 122 rfl) (wd hw 2 rfl) (wd hw 123 rfl) (by decide) pd13 [(.long b), (.int (3 : Int32))] [(.int (3 : Int32)), (.ref b345)] rfl rfl rfl 2 (Nat.le_of_eq rfl) (CN.pay (W := 2) A354 (m_dr l Z a0 hw b (3 : Int32) d3 h354 n0 A354.old hd3) (wd hw 123 rfl) (wd hw 2 rfl) (by decide) (by decide)) (kc := 0) (ks := 0) (by decide) (by decide) all0 (fun q => nomatch q) fun v356 T356 h356 L356 A356 K356 q356 => ?_
  obtain ⟨rfl, hh356⟩ := q356
  obtain rfl := hh356.symm
  show Wp pG e below _ T356 (mkF m 55 _ [(.int d3), (.int (3 : Int32)), (.ref b345)])
  refine f_castore A356 d22_55 (pc' := 56) rfl V354 ⟨by decide, by decide⟩ 3 (by decide) (Nat.le_of_ble_eq_true rfl) d3 (nar_id (by omega)) (vs' := [(.int d0), (.int d1), (.int d2), (.int d3), (.int (0 : Int32))]) rfl (Nat.le_trans A0.sz bg345) (fun q => nomatch q) fun T357 h357 A357 K357 V357 => ?_
  have Q358 : Keep h0 h357 [] := Q355.trans K357 (allS (Or.inr (Nat.le_trans K0.1 bg345)) all0)
  refine f_iloadN A357 d22_56 (pc' := 57) rfl rfl ?_
  refine f_iconst A357 d22_57 (pc' := 58) rfl 4 rfl ?_
  refine f_icN A357 d22_58 (tlt (by decide : (4 : Int32) < (5 : Int32))).2.2.2 (pc' := 61) rfl ?_
  refine f_aloadN A357 d22_61 (pc' := 62) rfl rfl rfl ?_
  refine f_iconst A357 d22_62 (pc' := 63) rfl 4 rfl ?_
  refine f_lloadN A357 d22_63 (pc' := 64) rfl rfl ?_
  refine f_iconst A357 d22_64 (pc' := 65) rfl 4 rfl ?_
  refine f_callS A357 d22_65 (pc' := 68) rfl (wd hw 121 rfl) (wd hw 122 rfl) (wd hw 2 rfl) (wd hw 123 rfl) (by decide) pd13 [(.long b), (.int (4 : Int32))] [(.int (4 : Int32)), (.ref b345)] rfl rfl rfl 2 (Nat.le_of_eq rfl) (CN.pay (W := 2) A357 (m_dr l Z a0 hw b (4 : Int32) d4 h357 n0 A357.old hd4) (wd hw 123 rfl) (wd hw 2 rfl) (by decide) (by decide)) (kc := 0) (ks := 0) (by decide) (by decide) all0 (fun q => nomatch q) fun v359 T359 h359 L359 A359 K359 q359 => ?_
  obtain ⟨rfl, hh359⟩ := q359
  obtain rfl := hh359.symm
  show Wp pG e below _ T359 (mkF m 68 _ [(.int d4), (.int (4 : Int32)), (.ref b345)])
  refine f_castore A359 d22_68 (pc' := 69) rfl V357 ⟨by decide, by decide⟩ 4 (by decide) (Nat.le_of_ble_eq_true rfl) d4 (nar_id (by omega)) (vs' := [(.int d0), (.int d1), (.int d2), (.int d3), (.int d4)]) rfl (Nat.le_trans A0.sz bg345) (fun q => nomatch q) fun T360 h360 A360 K360 V360 => ?_
  have Q361 : Keep h0 h360 [] := Q358.trans K360 (allS (Or.inr (Nat.le_trans K0.1 bg345)) all0)
  refine f_iloadN A360 d22_69 (pc' := 70) rfl rfl ?_
  refine f_iconst A360 d22_70 (pc' := 71) rfl 5 rfl ?_
  refine f_icY A360 d22_71 (flt (by decide : ¬ (5 : Int32) < (5 : Int32))).2.2.2 (pc' := 82) (by decide) (by decide) ?_
  refine f_iloadN A360 d22_82 (pc' := 83) rfl rfl ?_
  refine f_bipush A360 d22_83 (pc' := 85) rfl 6 rfl ?_
  refine f_icY A360 d22_85 (flt (by decide : ¬ (6 : Int32) < (5 : Int32))).2.2.2 (pc' := 98) (by decide) (by decide) ?_
  refine f_aloadN A360 d22_98 (pc' := 99) rfl rfl rfl ?_
  exact f_retRN A360 hlk hret d22_99 rfl rfl (by decide) (by decide) Q361 ⟨b345, kA345, rfl, (Nat.le_trans K0.1 bg345), V360⟩
theorem d22_74 : decode method_7_code 74 = .ok (.aload_n 3, 1) := by decide +kernel
theorem d22_75 : decode method_7_code 75 = .ok (.iconst 5, 1) := by decide +kernel
theorem d22_76 : decode method_7_code 76 = .ok (.lload_n 0, 1) := by decide +kernel
theorem d22_77 : decode method_7_code 77 = .ok (.iconst 5, 1) := by decide +kernel
theorem d22_78 : decode method_7_code 78 = .ok (.invokestatic 48, 3) := by decide +kernel
theorem d22_81 : decode method_7_code 81 = .ok (.castore, 1) := by decide +kernel
set_option maxRecDepth 65536 in
set_option maxHeartbeats 40000000 in
theorem m_dc6 (l : Launch) (Z : State) (a0 : Array Value) (hw : ∀ d ∈ tables_1, d.before a0 Z = true) (b : Int64) (d0 d1 d2 d3 d4 d5 d6 : Int32) (h0 : Heap) (n0 : Nat) (ho : Old Z n0 h0) (hd0 : byC b 0 = d0) (rd0 : 0 ≤ d0.toInt ∧ d0.toInt ≤ 255) (hd1 : byC b 1 = d1) (rd1 : 0 ≤ d1.toInt ∧ d1.toInt ≤ 255) (hd2 : byC b 2 = d2) (rd2 : 0 ≤ d2.toInt ∧ d2.toInt ≤ 255) (hd3 : byC b 3 = d3) (rd3 : 0 ≤ d3.toInt ∧ d3.toInt ≤ 255) (hd4 : byC b 4 = d4) (rd4 : 0 ≤ d4.toInt ∧ d4.toInt ≤ 255) (hd5 : byC b 5 = d5) (rd5 : 0 ≤ d5.toInt ∧ d5.toInt ≤ 255) (hd6 : byC b 6 = d6) (rd6 : 0 ≤ d6.toInt ∧ d6.toInt ≤ 255) :
    CN l (⟨"com/example/confinement/confinement/policy/VerdictForKeywordPinLaw", "drawnChars", "(JI)[C"⟩ : MethodName) method_7_code 4 (some (.array .char)) [] ({ frames := 1, cells := 1, slots := 6, locals := 20 } : Room) Z n0 h0 #[(.long b), (.int (6 : Int32))] [] (fun v h => ∃ (a : Addr) (kA : ClassId), v = some (.ref a) ∧ h0.size ≤ a ∧ Arv Z h a kA .char 6 [(.int d0), (.int d1), (.int d2), (.int d3), (.int d4), (.int d5)] (.int 0)) := by
  refine CN.walk (plainFor_of_name pn3) ho (L0 := #[.val (.long b), .second, .val (.int (6 : Int32)), .unset]) (fun m => rfl) ?_
  intro pG e s m below meth cO T hlk hret hnm A0
  have K0 : Keep h0 h0 [] := Keep.refl _ _
  refine f_iloadN A0 d22_0 (pc' := 1) rfl rfl ?_
  refine f_callS A0 d22_1 (pc' := 4) rfl (wd hw 35 rfl) (wd hw 36 rfl) (wd hw 2 rfl) (wd hw 37 rfl) (by decide) pd10 [(.int (6 : Int32))] [] rfl rfl rfl 0 (Nat.le_of_eq rfl) (CN.pay (W := 0) A0 (m_al6 l Z a0 hw h0 n0 A0.old) (wd hw 37 rfl) (wd hw 2 rfl) (by decide) (by decide)) (kc := 1) (ks := 6) (by decide) (by decide) all0 (fun q => nomatch q) fun v362 T362 h362 L362 A362 K362 q362 => ?_
  have Q363 : Keep h0 h362 [] := K0.trans K362 all0
  obtain ⟨b362, kA362, rfl, bg362, V362⟩ := q362
  show Wp pG e below _ T362 (mkF m 4 _ [(.ref b362)])
  refine f_astoreN A362 d22_4 (pc' := 5) rfl rfl (L' := #[.val (.long b), .second, .val (.int (6 : Int32)), .val (.ref b362)]) rfl ?_
  refine f_iloadN A362 d22_5 (pc' := 6) rfl rfl ?_
  refine f_ifN A362 d22_6 ((if0 _ _).trans (tlt (by decide : (0 : Int32) < (6 : Int32))).2.2.2) (pc' := 9) rfl ?_
  refine f_aloadN A362 d22_9 (pc' := 10) rfl rfl rfl ?_
  refine f_iconst A362 d22_10 (pc' := 11) rfl 0 rfl ?_
  refine f_lloadN A362 d22_11 (pc' := 12) rfl rfl ?_
  refine f_iconst A362 d22_12 (pc' := 13) rfl 0 rfl ?_
  refine f_callS A362 d22_13 (pc' := 16) rfl (wd hw 121 rfl) (wd hw 122 rfl) (wd hw 2 rfl) (wd hw 123 rfl) (by decide) pd13 [(.long b), (.int (0 : Int32))] [(.int (0 : Int32)), (.ref b362)] rfl rfl rfl 2 (Nat.le_of_eq rfl) (CN.pay (W := 2) A362 (m_dr l Z a0 hw b (0 : Int32) d0 h362 n0 A362.old hd0) (wd hw 123 rfl) (wd hw 2 rfl) (by decide) (by decide)) (kc := 0) (ks := 0) (by decide) (by decide) all0 (fun q => nomatch q) fun v364 T364 h364 L364 A364 K364 q364 => ?_
  obtain ⟨rfl, hh364⟩ := q364
  obtain rfl := hh364.symm
  show Wp pG e below _ T364 (mkF m 16 _ [(.int d0), (.int (0 : Int32)), (.ref b362)])
  refine f_castore A364 d22_16 (pc' := 17) rfl V362 ⟨by decide, by decide⟩ 0 (by decide) (Nat.le_of_ble_eq_true rfl) d0 (nar_id (by omega)) (vs' := [(.int d0), (.int (0 : Int32)), (.int (0 : Int32)), (.int (0 : Int32)), (.int (0 : Int32)), (.int (0 : Int32))]) rfl (Nat.le_trans A0.sz bg362) (fun q => nomatch q) fun T365 h365 A365 K365 V365 => ?_
  have Q366 : Keep h0 h365 [] := Q363.trans K365 (allS (Or.inr (Nat.le_trans K0.1 bg362)) all0)
  refine f_iloadN A365 d22_17 (pc' := 18) rfl rfl ?_
  refine f_iconst A365 d22_18 (pc' := 19) rfl 1 rfl ?_
  refine f_icN A365 d22_19 (tlt (by decide : (1 : Int32) < (6 : Int32))).2.2.2 (pc' := 22) rfl ?_
  refine f_aloadN A365 d22_22 (pc' := 23) rfl rfl rfl ?_
  refine f_iconst A365 d22_23 (pc' := 24) rfl 1 rfl ?_
  refine f_lloadN A365 d22_24 (pc' := 25) rfl rfl ?_
  refine f_iconst A365 d22_25 (pc' := 26) rfl 1 rfl ?_
  refine f_callS A365 d22_26 (pc' := 29) rfl (wd hw 121 rfl) (wd hw 122 rfl) (wd hw 2 rfl) (wd hw 123 rfl) (by decide) pd13 [(.long b), (.int (1 : Int32))] [(.int (1 : Int32)), (.ref b362)] rfl rfl rfl 2 (Nat.le_of_eq rfl) (CN.pay (W := 2) A365 (m_dr l Z a0 hw b (1 : Int32) d1 h365 n0 A365.old hd1) (wd hw 123 rfl) (wd hw 2 rfl) (by decide) (by decide)) (kc := 0) (ks := 0) (by decide) (by decide) all0 (fun q => nomatch q) fun v367 T367 h367 L367 A367 K367 q367 => ?_
  obtain ⟨rfl, hh367⟩ := q367
  obtain rfl := hh367.symm
  show Wp pG e below _ T367 (mkF m 29 _ [(.int d1), (.int (1 : Int32)), (.ref b362)])
  refine f_castore A367 d22_29 (pc' := 30) rfl V365 ⟨by decide, by decide⟩ 1 (by decide) (Nat.le_of_ble_eq_true rfl) d1 (nar_id (by omega)) (vs' := [(.int d0), (.int d1), (.int (0 : Int32)), (.int (0 : Int32)), (.int (0 : Int32)), (.int (0 : Int32))]) rfl (Nat.le_trans A0.sz bg362) (fun q => nomatch q) fun T368 h368 A368 K368 V368 => ?_
  have Q369 : Keep h0 h368 [] := Q366.trans K368 (allS (Or.inr (Nat.le_trans K0.1 bg362)) all0)
  refine f_iloadN A368 d22_30 (pc' := 31) rfl rfl ?_
  refine f_iconst A368 d22_31 (pc' := 32) rfl 2 rfl ?_
  refine f_icN A368 d22_32 (tlt (by decide : (2 : Int32) < (6 : Int32))).2.2.2 (pc' := 35) rfl ?_
  refine f_aloadN A368 d22_35 (pc' := 36) rfl rfl rfl ?_
  refine f_iconst A368 d22_36 (pc' := 37) rfl 2 rfl ?_
  refine f_lloadN A368 d22_37 (pc' := 38) rfl rfl ?_
  refine f_iconst A368 d22_38 (pc' := 39) rfl 2 rfl ?_
  refine f_callS A368 d22_39 (pc' := 42) rfl (wd hw 121 rfl) (wd hw 122 rfl) (wd hw 2 rfl) (wd hw 123 rfl) (by decide) pd13 [(.long b), (.int (2 : Int32))] [(.int (2 : Int32)), (.ref b362)] rfl rfl rfl 2 (Nat.le_of_eq rfl) (CN.pay (W := 2) A368 (m_dr l Z a0 hw b (2 : Int32) d2 h368 n0 A368.old hd2) (wd hw 123 rfl) (wd hw 2 rfl) (by decide) (by decide)) (kc := 0) (ks := 0) (by decide) (by decide) all0 (fun q => nomatch q) fun v370 T370 h370 L370 A370 K370 q370 => ?_
  obtain ⟨rfl, hh370⟩ := q370
  obtain rfl := hh370.symm
  show Wp pG e below _ T370 (mkF m 42 _ [(.int d2), (.int (2 : Int32)), (.ref b362)])
  refine f_castore A370 d22_42 (pc' := 43) rfl V368 ⟨by decide, by decide⟩ 2 (by decide) (Nat.le_of_ble_eq_true rfl) d2 (nar_id (by omega)) (vs' := [(.int d0), (.int d1), (.int d2), (.int (0 : Int32)), (.int (0 : Int32)), (.int (0 : Int32))]) rfl (Nat.le_trans A0.sz bg362) (fun q => nomatch q) fun T371 h371 A371 K371 V371 => ?_
  have Q372 : Keep h0 h371 [] := Q369.trans K371 (allS (Or.inr (Nat.le_trans K0.1 bg362)) all0)
  refine f_iloadN A371 d22_43 (pc' := 44) rfl rfl ?_
  refine f_iconst A371 d22_44 (pc' := 45) rfl 3 rfl ?_
  refine f_icN A371 d22_45 (tlt (by decide : (3 : Int32) < (6 : Int32))).2.2.2 (pc' := 48) rfl ?_
  refine f_aloadN A371 d22_48 (pc' := 49) rfl rfl rfl ?_
  refine f_iconst A371 d22_49 (pc' := 50) rfl 3 rfl ?_
  refine f_lloadN A371 d22_50 (pc' := 51) rfl rfl ?_
  refine f_iconst A371 d22_51 (pc' := 52) rfl 3 rfl ?_
  refine f_callS A371 d22_52 (pc' := 55) rfl (wd hw 121 rfl) (wd hw 122 rfl) (wd hw 2 rfl) (wd hw 123 rfl) (by decide) pd13 [(.long b), (.int (3 : Int32))] [(.int (3 : Int32)), (.ref b362)] rfl rfl rfl 2 (Nat.le_of_eq rfl) (CN.pay (W := 2) A371 (m_dr l Z a0 hw b (3 : Int32) d3 h371 n0 A371.old hd3) (wd hw 123 rfl) (wd hw 2 rfl) (by decide) (by decide)) (kc := 0) (ks := 0) (by decide) (by decide) all0 (fun q => nomatch q) fun v373 T373 h373 L373 A373 K373 q373 => ?_
  obtain ⟨rfl, hh373⟩ := q373
  obtain rfl := hh373.symm
  show Wp pG e below _ T373 (mkF m 55 _ [(.int d3), (.int (3 : Int32)), (.ref b362)])
  refine f_castore A373 d22_55 (pc' := 56) rfl V371 ⟨by decide, by decide⟩ 3 (by decide) (Nat.le_of_ble_eq_true rfl) d3 (nar_id (by omega)) (vs' := [(.int d0), (.int d1), (.int d2), (.int d3), (.int (0 : Int32)), (.int (0 : Int32))]) rfl (Nat.le_trans A0.sz bg362) (fun q => nomatch q) fun T374 h374 A374 K374 V374 => ?_
  have Q375 : Keep h0 h374 [] := Q372.trans K374 (allS (Or.inr (Nat.le_trans K0.1 bg362)) all0)
  refine f_iloadN A374 d22_56 (pc' := 57) rfl rfl ?_
  refine f_iconst A374 d22_57 (pc' := 58) rfl 4 rfl ?_
  refine f_icN A374 d22_58 (tlt (by decide : (4 : Int32) < (6 : Int32))).2.2.2 (pc' := 61) rfl ?_
  refine f_aloadN A374 d22_61 (pc' := 62) rfl rfl rfl ?_
  refine f_iconst A374 d22_62 (pc' := 63) rfl 4 rfl ?_
  refine f_lloadN A374 d22_63 (pc' := 64) rfl rfl ?_
  refine f_iconst A374 d22_64 (pc' := 65) rfl 4 rfl ?_
  refine f_callS A374 d22_65 (pc' := 68) rfl (wd hw 121 rfl) (wd hw 122 rfl) (wd hw 2 rfl) (wd hw 123 rfl) (by decide) pd13 [(.long b), (.int (4 : Int32))] [(.int (4 : Int32)), (.ref b362)] rfl rfl rfl 2 (Nat.le_of_eq rfl) (CN.pay (W := 2) A374 (m_dr l Z a0 hw b (4 : Int32) d4 h374 n0 A374.old hd4) (wd hw 123 rfl) (wd hw 2 rfl) (by decide) (by decide)) (kc := 0) (ks := 0) (by decide) (by decide) all0 (fun q => nomatch q) fun v376 T376 h376 L376 A376 K376 q376 => ?_
  obtain ⟨rfl, hh376⟩ := q376
  obtain rfl := hh376.symm
  show Wp pG e below _ T376 (mkF m 68 _ [(.int d4), (.int (4 : Int32)), (.ref b362)])
  refine f_castore A376 d22_68 (pc' := 69) rfl V374 ⟨by decide, by decide⟩ 4 (by decide) (Nat.le_of_ble_eq_true rfl) d4 (nar_id (by omega)) (vs' := [(.int d0), (.int d1), (.int d2), (.int d3), (.int d4), (.int (0 : Int32))]) rfl (Nat.le_trans A0.sz bg362) (fun q => nomatch q) fun T377 h377 A377 K377 V377 => ?_
  have Q378 : Keep h0 h377 [] := Q375.trans K377 (allS (Or.inr (Nat.le_trans K0.1 bg362)) all0)
  refine f_iloadN A377 d22_69 (pc' := 70) rfl rfl ?_
  refine f_iconst A377 d22_70 (pc' := 71) rfl 5 rfl ?_
  refine f_icN A377 d22_71 (tlt (by decide : (5 : Int32) < (6 : Int32))).2.2.2 (pc' := 74) rfl ?_
  refine f_aloadN A377 d22_74 (pc' := 75) rfl rfl rfl ?_
  refine f_iconst A377 d22_75 (pc' := 76) rfl 5 rfl ?_
  refine f_lloadN A377 d22_76 (pc' := 77) rfl rfl ?_
  refine f_iconst A377 d22_77 (pc' := 78) rfl 5 rfl ?_
  refine f_callS A377 d22_78 (pc' := 81) rfl (wd hw 121 rfl) (wd hw 122 rfl) (wd hw 2 rfl) (wd hw 123 rfl) (by decide) pd13 [(.long b), (.int (5 : Int32))] [(.int (5 : Int32)), (.ref b362)] rfl rfl rfl 2 (Nat.le_of_eq rfl) (CN.pay (W := 2) A377 (m_dr l Z a0 hw b (5 : Int32) d5 h377 n0 A377.old hd5) (wd hw 123 rfl) (wd hw 2 rfl) (by decide) (by decide)) (kc := 0) (ks := 0) (by decide) (by decide) all0 (fun q => nomatch q) fun v379 T379 h379 L379 A379 K379 q379 => ?_
  obtain ⟨rfl, hh379⟩ := q379
  obtain rfl := hh379.symm
  show Wp pG e below _ T379 (mkF m 81 _ [(.int d5), (.int (5 : Int32)), (.ref b362)])
  refine f_castore A379 d22_81 (pc' := 82) rfl V377 ⟨by decide, by decide⟩ 5 (by decide) (Nat.le_of_ble_eq_true rfl) d5 (nar_id (by omega)) (vs' := [(.int d0), (.int d1), (.int d2), (.int d3), (.int d4), (.int d5)]) rfl (Nat.le_trans A0.sz bg362) (fun q => nomatch q) fun T380 h380 A380 K380 V380 => ?_
  have Q381 : Keep h0 h380 [] := Q378.trans K380 (allS (Or.inr (Nat.le_trans K0.1 bg362)) all0)
  refine f_iloadN A380 d22_82 (pc' := 83) rfl rfl ?_
  refine f_bipush A380 d22_83 (pc' := 85) rfl 6 rfl ?_
  refine f_icY A380 d22_85 (flt (by decide : ¬ (6 : Int32) < (6 : Int32))).2.2.2 (pc' := 98) (by decide) (by decide) ?_
  refine f_aloadN A380 d22_98 (pc' := 99) rfl rfl rfl ?_
  exact f_retRN A380 hlk hret d22_99 rfl rfl (by decide) (by decide) Q381 ⟨b362, kA362, rfl, (Nat.le_trans K0.1 bg362), V380⟩
theorem d22_88 : decode method_7_code 88 = .ok (.aload_n 3, 1) := by decide +kernel
theorem d22_89 : decode method_7_code 89 = .ok (.bipush 6, 2) := by decide +kernel
theorem d22_91 : decode method_7_code 91 = .ok (.lload_n 0, 1) := by decide +kernel
theorem d22_92 : decode method_7_code 92 = .ok (.bipush 6, 2) := by decide +kernel
theorem d22_94 : decode method_7_code 94 = .ok (.invokestatic 48, 3) := by decide +kernel
theorem d22_97 : decode method_7_code 97 = .ok (.castore, 1) := by decide +kernel
set_option maxRecDepth 65536 in
set_option maxHeartbeats 40000000 in
theorem m_dc7 (l : Launch) (Z : State) (a0 : Array Value) (hw : ∀ d ∈ tables_1, d.before a0 Z = true) (b : Int64) (d0 d1 d2 d3 d4 d5 d6 : Int32) (h0 : Heap) (n0 : Nat) (ho : Old Z n0 h0) (hd0 : byC b 0 = d0) (rd0 : 0 ≤ d0.toInt ∧ d0.toInt ≤ 255) (hd1 : byC b 1 = d1) (rd1 : 0 ≤ d1.toInt ∧ d1.toInt ≤ 255) (hd2 : byC b 2 = d2) (rd2 : 0 ≤ d2.toInt ∧ d2.toInt ≤ 255) (hd3 : byC b 3 = d3) (rd3 : 0 ≤ d3.toInt ∧ d3.toInt ≤ 255) (hd4 : byC b 4 = d4) (rd4 : 0 ≤ d4.toInt ∧ d4.toInt ≤ 255) (hd5 : byC b 5 = d5) (rd5 : 0 ≤ d5.toInt ∧ d5.toInt ≤ 255) (hd6 : byC b 6 = d6) (rd6 : 0 ≤ d6.toInt ∧ d6.toInt ≤ 255) :
    CN l (⟨"com/example/confinement/confinement/policy/VerdictForKeywordPinLaw", "drawnChars", "(JI)[C"⟩ : MethodName) method_7_code 4 (some (.array .char)) [] ({ frames := 1, cells := 1, slots := 7, locals := 20 } : Room) Z n0 h0 #[(.long b), (.int (7 : Int32))] [] (fun v h => ∃ (a : Addr) (kA : ClassId), v = some (.ref a) ∧ h0.size ≤ a ∧ Arv Z h a kA .char 7 [(.int d0), (.int d1), (.int d2), (.int d3), (.int d4), (.int d5), (.int d6)] (.int 0)) := by
  refine CN.walk (plainFor_of_name pn3) ho (L0 := #[.val (.long b), .second, .val (.int (7 : Int32)), .unset]) (fun m => rfl) ?_
  intro pG e s m below meth cO T hlk hret hnm A0
  have K0 : Keep h0 h0 [] := Keep.refl _ _
  refine f_iloadN A0 d22_0 (pc' := 1) rfl rfl ?_
  refine f_callS A0 d22_1 (pc' := 4) rfl (wd hw 35 rfl) (wd hw 36 rfl) (wd hw 2 rfl) (wd hw 37 rfl) (by decide) pd10 [(.int (7 : Int32))] [] rfl rfl rfl 0 (Nat.le_of_eq rfl) (CN.pay (W := 0) A0 (m_al7 l Z a0 hw h0 n0 A0.old) (wd hw 37 rfl) (wd hw 2 rfl) (by decide) (by decide)) (kc := 1) (ks := 7) (by decide) (by decide) all0 (fun q => nomatch q) fun v382 T382 h382 L382 A382 K382 q382 => ?_
  have Q383 : Keep h0 h382 [] := K0.trans K382 all0
  obtain ⟨b382, kA382, rfl, bg382, V382⟩ := q382
  show Wp pG e below _ T382 (mkF m 4 _ [(.ref b382)])
  refine f_astoreN A382 d22_4 (pc' := 5) rfl rfl (L' := #[.val (.long b), .second, .val (.int (7 : Int32)), .val (.ref b382)]) rfl ?_
  refine f_iloadN A382 d22_5 (pc' := 6) rfl rfl ?_
  refine f_ifN A382 d22_6 ((if0 _ _).trans (tlt (by decide : (0 : Int32) < (7 : Int32))).2.2.2) (pc' := 9) rfl ?_
  refine f_aloadN A382 d22_9 (pc' := 10) rfl rfl rfl ?_
  refine f_iconst A382 d22_10 (pc' := 11) rfl 0 rfl ?_
  refine f_lloadN A382 d22_11 (pc' := 12) rfl rfl ?_
  refine f_iconst A382 d22_12 (pc' := 13) rfl 0 rfl ?_
  refine f_callS A382 d22_13 (pc' := 16) rfl (wd hw 121 rfl) (wd hw 122 rfl) (wd hw 2 rfl) (wd hw 123 rfl) (by decide) pd13 [(.long b), (.int (0 : Int32))] [(.int (0 : Int32)), (.ref b382)] rfl rfl rfl 2 (Nat.le_of_eq rfl) (CN.pay (W := 2) A382 (m_dr l Z a0 hw b (0 : Int32) d0 h382 n0 A382.old hd0) (wd hw 123 rfl) (wd hw 2 rfl) (by decide) (by decide)) (kc := 0) (ks := 0) (by decide) (by decide) all0 (fun q => nomatch q) fun v384 T384 h384 L384 A384 K384 q384 => ?_
  obtain ⟨rfl, hh384⟩ := q384
  obtain rfl := hh384.symm
  show Wp pG e below _ T384 (mkF m 16 _ [(.int d0), (.int (0 : Int32)), (.ref b382)])
  refine f_castore A384 d22_16 (pc' := 17) rfl V382 ⟨by decide, by decide⟩ 0 (by decide) (Nat.le_of_ble_eq_true rfl) d0 (nar_id (by omega)) (vs' := [(.int d0), (.int (0 : Int32)), (.int (0 : Int32)), (.int (0 : Int32)), (.int (0 : Int32)), (.int (0 : Int32)), (.int (0 : Int32))]) rfl (Nat.le_trans A0.sz bg382) (fun q => nomatch q) fun T385 h385 A385 K385 V385 => ?_
  have Q386 : Keep h0 h385 [] := Q383.trans K385 (allS (Or.inr (Nat.le_trans K0.1 bg382)) all0)
  refine f_iloadN A385 d22_17 (pc' := 18) rfl rfl ?_
  refine f_iconst A385 d22_18 (pc' := 19) rfl 1 rfl ?_
  refine f_icN A385 d22_19 (tlt (by decide : (1 : Int32) < (7 : Int32))).2.2.2 (pc' := 22) rfl ?_
  refine f_aloadN A385 d22_22 (pc' := 23) rfl rfl rfl ?_
  refine f_iconst A385 d22_23 (pc' := 24) rfl 1 rfl ?_
  refine f_lloadN A385 d22_24 (pc' := 25) rfl rfl ?_
  refine f_iconst A385 d22_25 (pc' := 26) rfl 1 rfl ?_
  refine f_callS A385 d22_26 (pc' := 29) rfl (wd hw 121 rfl) (wd hw 122 rfl) (wd hw 2 rfl) (wd hw 123 rfl) (by decide) pd13 [(.long b), (.int (1 : Int32))] [(.int (1 : Int32)), (.ref b382)] rfl rfl rfl 2 (Nat.le_of_eq rfl) (CN.pay (W := 2) A385 (m_dr l Z a0 hw b (1 : Int32) d1 h385 n0 A385.old hd1) (wd hw 123 rfl) (wd hw 2 rfl) (by decide) (by decide)) (kc := 0) (ks := 0) (by decide) (by decide) all0 (fun q => nomatch q) fun v387 T387 h387 L387 A387 K387 q387 => ?_
  obtain ⟨rfl, hh387⟩ := q387
  obtain rfl := hh387.symm
  show Wp pG e below _ T387 (mkF m 29 _ [(.int d1), (.int (1 : Int32)), (.ref b382)])
  refine f_castore A387 d22_29 (pc' := 30) rfl V385 ⟨by decide, by decide⟩ 1 (by decide) (Nat.le_of_ble_eq_true rfl) d1 (nar_id (by omega)) (vs' := [(.int d0), (.int d1), (.int (0 : Int32)), (.int (0 : Int32)), (.int (0 : Int32)), (.int (0 : Int32)), (.int (0 : Int32))]) rfl (Nat.le_trans A0.sz bg382) (fun q => nomatch q) fun T388 h388 A388 K388 V388 => ?_
  have Q389 : Keep h0 h388 [] := Q386.trans K388 (allS (Or.inr (Nat.le_trans K0.1 bg382)) all0)
  refine f_iloadN A388 d22_30 (pc' := 31) rfl rfl ?_
  refine f_iconst A388 d22_31 (pc' := 32) rfl 2 rfl ?_
  refine f_icN A388 d22_32 (tlt (by decide : (2 : Int32) < (7 : Int32))).2.2.2 (pc' := 35) rfl ?_
  refine f_aloadN A388 d22_35 (pc' := 36) rfl rfl rfl ?_
  refine f_iconst A388 d22_36 (pc' := 37) rfl 2 rfl ?_
  refine f_lloadN A388 d22_37 (pc' := 38) rfl rfl ?_
  refine f_iconst A388 d22_38 (pc' := 39) rfl 2 rfl ?_
  refine f_callS A388 d22_39 (pc' := 42) rfl (wd hw 121 rfl) (wd hw 122 rfl) (wd hw 2 rfl) (wd hw 123 rfl) (by decide) pd13 [(.long b), (.int (2 : Int32))] [(.int (2 : Int32)), (.ref b382)] rfl rfl rfl 2 (Nat.le_of_eq rfl) (CN.pay (W := 2) A388 (m_dr l Z a0 hw b (2 : Int32) d2 h388 n0 A388.old hd2) (wd hw 123 rfl) (wd hw 2 rfl) (by decide) (by decide)) (kc := 0) (ks := 0) (by decide) (by decide) all0 (fun q => nomatch q) fun v390 T390 h390 L390 A390 K390 q390 => ?_
  obtain ⟨rfl, hh390⟩ := q390
  obtain rfl := hh390.symm
  show Wp pG e below _ T390 (mkF m 42 _ [(.int d2), (.int (2 : Int32)), (.ref b382)])
  refine f_castore A390 d22_42 (pc' := 43) rfl V388 ⟨by decide, by decide⟩ 2 (by decide) (Nat.le_of_ble_eq_true rfl) d2 (nar_id (by omega)) (vs' := [(.int d0), (.int d1), (.int d2), (.int (0 : Int32)), (.int (0 : Int32)), (.int (0 : Int32)), (.int (0 : Int32))]) rfl (Nat.le_trans A0.sz bg382) (fun q => nomatch q) fun T391 h391 A391 K391 V391 => ?_
  have Q392 : Keep h0 h391 [] := Q389.trans K391 (allS (Or.inr (Nat.le_trans K0.1 bg382)) all0)
  refine f_iloadN A391 d22_43 (pc' := 44) rfl rfl ?_
  refine f_iconst A391 d22_44 (pc' := 45) rfl 3 rfl ?_
  refine f_icN A391 d22_45 (tlt (by decide : (3 : Int32) < (7 : Int32))).2.2.2 (pc' := 48) rfl ?_
  refine f_aloadN A391 d22_48 (pc' := 49) rfl rfl rfl ?_
  refine f_iconst A391 d22_49 (pc' := 50) rfl 3 rfl ?_
  refine f_lloadN A391 d22_50 (pc' := 51) rfl rfl ?_
  refine f_iconst A391 d22_51 (pc' := 52) rfl 3 rfl ?_
  refine f_callS A391 d22_52 (pc' := 55) rfl (wd hw 121 rfl) (wd hw 122 rfl) (wd hw 2 rfl) (wd hw 123 rfl) (by decide) pd13 [(.long b), (.int (3 : Int32))] [(.int (3 : Int32)), (.ref b382)] rfl rfl rfl 2 (Nat.le_of_eq rfl) (CN.pay (W := 2) A391 (m_dr l Z a0 hw b (3 : Int32) d3 h391 n0 A391.old hd3) (wd hw 123 rfl) (wd hw 2 rfl) (by decide) (by decide)) (kc := 0) (ks := 0) (by decide) (by decide) all0 (fun q => nomatch q) fun v393 T393 h393 L393 A393 K393 q393 => ?_
  obtain ⟨rfl, hh393⟩ := q393
  obtain rfl := hh393.symm
  show Wp pG e below _ T393 (mkF m 55 _ [(.int d3), (.int (3 : Int32)), (.ref b382)])
  refine f_castore A393 d22_55 (pc' := 56) rfl V391 ⟨by decide, by decide⟩ 3 (by decide) (Nat.le_of_ble_eq_true rfl) d3 (nar_id (by omega)) (vs' := [(.int d0), (.int d1), (.int d2), (.int d3), (.int (0 : Int32)), (.int (0 : Int32)), (.int (0 : Int32))]) rfl (Nat.le_trans A0.sz bg382) (fun q => nomatch q) fun T394 h394 A394 K394 V394 => ?_
  have Q395 : Keep h0 h394 [] := Q392.trans K394 (allS (Or.inr (Nat.le_trans K0.1 bg382)) all0)
  refine f_iloadN A394 d22_56 (pc' := 57) rfl rfl ?_
  refine f_iconst A394 d22_57 (pc' := 58) rfl 4 rfl ?_
  refine f_icN A394 d22_58 (tlt (by decide : (4 : Int32) < (7 : Int32))).2.2.2 (pc' := 61) rfl ?_
  refine f_aloadN A394 d22_61 (pc' := 62) rfl rfl rfl ?_
  refine f_iconst A394 d22_62 (pc' := 63) rfl 4 rfl ?_
  refine f_lloadN A394 d22_63 (pc' := 64) rfl rfl ?_
  refine f_iconst A394 d22_64 (pc' := 65) rfl 4 rfl ?_
  refine f_callS A394 d22_65 (pc' := 68) rfl (wd hw 121 rfl) (wd hw 122 rfl) (wd hw 2 rfl) (wd hw 123 rfl) (by decide) pd13 [(.long b), (.int (4 : Int32))] [(.int (4 : Int32)), (.ref b382)] rfl rfl rfl 2 (Nat.le_of_eq rfl) (CN.pay (W := 2) A394 (m_dr l Z a0 hw b (4 : Int32) d4 h394 n0 A394.old hd4) (wd hw 123 rfl) (wd hw 2 rfl) (by decide) (by decide)) (kc := 0) (ks := 0) (by decide) (by decide) all0 (fun q => nomatch q) fun v396 T396 h396 L396 A396 K396 q396 => ?_
  obtain ⟨rfl, hh396⟩ := q396
  obtain rfl := hh396.symm
  show Wp pG e below _ T396 (mkF m 68 _ [(.int d4), (.int (4 : Int32)), (.ref b382)])
  refine f_castore A396 d22_68 (pc' := 69) rfl V394 ⟨by decide, by decide⟩ 4 (by decide) (Nat.le_of_ble_eq_true rfl) d4 (nar_id (by omega)) (vs' := [(.int d0), (.int d1), (.int d2), (.int d3), (.int d4), (.int (0 : Int32)), (.int (0 : Int32))]) rfl (Nat.le_trans A0.sz bg382) (fun q => nomatch q) fun T397 h397 A397 K397 V397 => ?_
  have Q398 : Keep h0 h397 [] := Q395.trans K397 (allS (Or.inr (Nat.le_trans K0.1 bg382)) all0)
  refine f_iloadN A397 d22_69 (pc' := 70) rfl rfl ?_
  refine f_iconst A397 d22_70 (pc' := 71) rfl 5 rfl ?_
  refine f_icN A397 d22_71 (tlt (by decide : (5 : Int32) < (7 : Int32))).2.2.2 (pc' := 74) rfl ?_
  refine f_aloadN A397 d22_74 (pc' := 75) rfl rfl rfl ?_
  refine f_iconst A397 d22_75 (pc' := 76) rfl 5 rfl ?_
  refine f_lloadN A397 d22_76 (pc' := 77) rfl rfl ?_
  refine f_iconst A397 d22_77 (pc' := 78) rfl 5 rfl ?_
  refine f_callS A397 d22_78 (pc' := 81) rfl (wd hw 121 rfl) (wd hw 122 rfl) (wd hw 2 rfl) (wd hw 123 rfl) (by decide) pd13 [(.long b), (.int (5 : Int32))] [(.int (5 : Int32)), (.ref b382)] rfl rfl rfl 2 (Nat.le_of_eq rfl) (CN.pay (W := 2) A397 (m_dr l Z a0 hw b (5 : Int32) d5 h397 n0 A397.old hd5) (wd hw 123 rfl) (wd hw 2 rfl) (by decide) (by decide)) (kc := 0) (ks := 0) (by decide) (by decide) all0 (fun q => nomatch q) fun v399 T399 h399 L399 A399 K399 q399 => ?_
  obtain ⟨rfl, hh399⟩ := q399
  obtain rfl := hh399.symm
  show Wp pG e below _ T399 (mkF m 81 _ [(.int d5), (.int (5 : Int32)), (.ref b382)])
  refine f_castore A399 d22_81 (pc' := 82) rfl V397 ⟨by decide, by decide⟩ 5 (by decide) (Nat.le_of_ble_eq_true rfl) d5 (nar_id (by omega)) (vs' := [(.int d0), (.int d1), (.int d2), (.int d3), (.int d4), (.int d5), (.int (0 : Int32))]) rfl (Nat.le_trans A0.sz bg382) (fun q => nomatch q) fun T400 h400 A400 K400 V400 => ?_
  have Q401 : Keep h0 h400 [] := Q398.trans K400 (allS (Or.inr (Nat.le_trans K0.1 bg382)) all0)
  refine f_iloadN A400 d22_82 (pc' := 83) rfl rfl ?_
  refine f_bipush A400 d22_83 (pc' := 85) rfl 6 rfl ?_
  refine f_icN A400 d22_85 (tlt (by decide : (6 : Int32) < (7 : Int32))).2.2.2 (pc' := 88) rfl ?_
  refine f_aloadN A400 d22_88 (pc' := 89) rfl rfl rfl ?_
  refine f_bipush A400 d22_89 (pc' := 91) rfl 6 rfl ?_
  refine f_lloadN A400 d22_91 (pc' := 92) rfl rfl ?_
  refine f_bipush A400 d22_92 (pc' := 94) rfl 6 rfl ?_
  refine f_callS A400 d22_94 (pc' := 97) rfl (wd hw 121 rfl) (wd hw 122 rfl) (wd hw 2 rfl) (wd hw 123 rfl) (by decide) pd13 [(.long b), (.int (6 : Int32))] [(.int (6 : Int32)), (.ref b382)] rfl rfl rfl 2 (Nat.le_of_eq rfl) (CN.pay (W := 2) A400 (m_dr l Z a0 hw b (6 : Int32) d6 h400 n0 A400.old hd6) (wd hw 123 rfl) (wd hw 2 rfl) (by decide) (by decide)) (kc := 0) (ks := 0) (by decide) (by decide) all0 (fun q => nomatch q) fun v402 T402 h402 L402 A402 K402 q402 => ?_
  obtain ⟨rfl, hh402⟩ := q402
  obtain rfl := hh402.symm
  show Wp pG e below _ T402 (mkF m 97 _ [(.int d6), (.int (6 : Int32)), (.ref b382)])
  refine f_castore A402 d22_97 (pc' := 98) rfl V400 ⟨by decide, by decide⟩ 6 (by decide) (Nat.le_of_ble_eq_true rfl) d6 (nar_id (by omega)) (vs' := [(.int d0), (.int d1), (.int d2), (.int d3), (.int d4), (.int d5), (.int d6)]) rfl (Nat.le_trans A0.sz bg382) (fun q => nomatch q) fun T403 h403 A403 K403 V403 => ?_
  have Q404 : Keep h0 h403 [] := Q401.trans K403 (allS (Or.inr (Nat.le_trans K0.1 bg382)) all0)
  refine f_aloadN A403 d22_98 (pc' := 99) rfl rfl rfl ?_
  exact f_retRN A403 hlk hret d22_99 rfl rfl (by decide) (by decide) Q404 ⟨b382, kA382, rfl, (Nat.le_trans K0.1 bg382), V403⟩
theorem d24_0 : decode method_8_code 0 = .ok (.ldc 7, 2) := by decide +kernel
theorem d24_2 : decode method_8_code 2 = .ok (.aload_n 0, 1) := by decide +kernel
theorem d24_3 : decode method_8_code 3 = .ok (.invokevirtual 52, 3) := by decide +kernel
theorem d24_6 : decode method_8_code 6 = .ok (.ifCond .eq 7, 3) := by decide +kernel
theorem d24_9 : decode method_8_code 9 = .ok (.getstatic 15, 3) := by decide +kernel
theorem d24_12 : decode method_8_code 12 = .ok (.areturn, 1) := by decide +kernel
theorem d24_13 : decode method_8_code 13 = .ok (.ldc 9, 2) := by decide +kernel
theorem d24_15 : decode method_8_code 15 = .ok (.aload_n 0, 1) := by decide +kernel
theorem d24_16 : decode method_8_code 16 = .ok (.invokevirtual 52, 3) := by decide +kernel
theorem d24_19 : decode method_8_code 19 = .ok (.ifCond .eq 7, 3) := by decide +kernel
theorem d24_22 : decode method_8_code 22 = .ok (.getstatic 21, 3) := by decide +kernel
theorem d24_25 : decode method_8_code 25 = .ok (.areturn, 1) := by decide +kernel
theorem d24_26 : decode method_8_code 26 = .ok (.ldc 11, 2) := by decide +kernel
theorem d24_28 : decode method_8_code 28 = .ok (.aload_n 0, 1) := by decide +kernel
theorem d24_29 : decode method_8_code 29 = .ok (.invokevirtual 52, 3) := by decide +kernel
theorem d24_32 : decode method_8_code 32 = .ok (.ifCond .eq 7, 3) := by decide +kernel
theorem d24_35 : decode method_8_code 35 = .ok (.getstatic 24, 3) := by decide +kernel
theorem d24_38 : decode method_8_code 38 = .ok (.areturn, 1) := by decide +kernel
theorem d24_39 : decode method_8_code 39 = .ok (.ldc 13, 2) := by decide +kernel
theorem d24_41 : decode method_8_code 41 = .ok (.aload_n 0, 1) := by decide +kernel
theorem d24_42 : decode method_8_code 42 = .ok (.invokevirtual 52, 3) := by decide +kernel
theorem d24_45 : decode method_8_code 45 = .ok (.ifCond .eq 7, 3) := by decide +kernel
theorem d24_48 : decode method_8_code 48 = .ok (.getstatic 27, 3) := by decide +kernel
theorem d24_51 : decode method_8_code 51 = .ok (.areturn, 1) := by decide +kernel
theorem d24_52 : decode method_8_code 52 = .ok (.aconst_null, 1) := by decide +kernel
theorem d24_53 : decode method_8_code 53 = .ok (.areturn, 1) := by decide +kernel
set_option maxRecDepth 65536 in
set_option maxHeartbeats 40000000 in
theorem m_ref (l : Launch) (Z : State) (a0 : Array Value) (hw : ∀ d ∈ tables_1, d.before a0 Z = true) (aA aD aM aL vv : Addr) (x t : Addr) (cs : List Int32) (zc : Int32) (O2 : Sta Z Z.heap "java/lang/String" "COMPACT_STRINGS" "Z" (.int zc)) (P5 : ¬ zc = 0) (h0 : Heap) (n0 : Nat) (ho : Old Z n0 h0) (hEL : EW Z a0 ELs) (hV : Verd Z aA aD aM aL vv) (F : Str Z h0 x t cs) :
    CW l (⟨"com/example/confinement/confinement/policy/VerdictForKeywordPinLaw", "ref", "(Ljava/lang/String;)Lcom/example/confinement/confinement/policy/Verdict;"⟩ : MethodName) method_8_code 1 (some (.object "com/example/confinement/confinement/policy/Verdict")) [] ({ frames := 3, cells := 8, slots := 88, locals := 60 } : Room) Z ELs [] n0 h0 #[(.ref x)] [] (fun v h => v = some (vOf aA aD aM aL cs)) := by
  refine CW.walk (plainFor_of_name pn3) ho (L0 := #[.val (.ref x)]) (fun m => rfl) ?_
  intro pG e s m below meth cO T hlk hret hnm hSL A0
  have K0 : Keep h0 h0 [] := Keep.refl _ _
  obtain ⟨kA, kD, kM, kL, tA, tD, tM, tL, kV, S0, E0, F0, G0, S1, E1, F1, G1, S2, E2, F2, G2, S3, E3, F3, G3, SV, EV, VV⟩ := id hV
  refine f_ldcC A0 d24_0 (pc' := 2) rfl (by decide) (vs := [(.int (97 : Int32)), (.int (108 : Int32)), (.int (108 : Int32)), (.int (111 : Int32)), (.int (119 : Int32))]) (z := 5) ⟨by decide, by decide⟩ (by decide) (by decide) (wd hw 4 rfl) (strA hw) hEL (n := 20) (by decide) (by decide) (by decide) (by decide) fun a405 b405 kb405 vm405 T405 h405 A405 E405 C405 Li405 x405 fc405 fv405 av405 hs405 => ?_
  have G405 : Str Z h405 a405 b405 [(97 : Int32), (108 : Int32), (108 : Int32), (111 : Int32), (119 : Int32)] := strLit x405 fc405 fv405 av405 (Or.inl ⟨rfl, rfl, rfl, by decide⟩) (by decide) (by decide)
  have Q406 : Keep h0 h405 [] := K0.ext E405
  refine f_aloadN A405 d24_2 (pc' := 3) rfl rfl rfl ?_
  have c407 := (F.ext E405)
  refine f_callV A405 (a := a405) d24_3 (pc' := 6) rfl (wd hw 128 rfl) (wd hw 105 rfl) (nfS A405 (wd hw 107 rfl)) (wd hw 107 rfl) (wd hw 106 rfl) (by decide) x405 pd9 [(.ref x)] [] rfl rfl rfl 0 (Nat.le_of_eq rfl) (payEq (W := 0) A405 hw (wd hw 6 rfl) G405 c407 O2 P5 (by decide) (by decide)) (kc := 0) (ks := 0) (by decide) (by decide) all0 (fun _ => sf0) fun v408 T408 h408 L408 A408 K408 q408 => ?_
  obtain ⟨rfl, hh408⟩ := q408
  obtain rfl := hh408.symm
  show Wp pG e below _ T408 (mkF m 6 _ [(.int (if [(97 : Int32), (108 : Int32), (108 : Int32), (111 : Int32), (119 : Int32)] = cs then 1 else 0))])
  by_cases q0 : [(97 : Int32), (108 : Int32), (108 : Int32), (111 : Int32), (119 : Int32)] = cs
  · rw [if_pos q0]
    refine f_ifN A408 d24_6 ((if0 _ _).trans (feq (by decide : ¬ (1 : Int32) = (0 : Int32))).1) (pc' := 9) rfl ?_
    refine f_getS A408 d24_9 (pc' := 12) rfl (host := "") (Or.inl (wd hw 15 rfl)) Via.refl S0 fun T409 A409 => ?_
    exact f_retRW A409 hEL hlk hret d24_12 rfl rfl (by decide) (by decide) Q406 (by rw [vOf, if_pos q0])
  · rw [if_neg q0]
    refine f_ifY A408 d24_6 ((if0 _ _).trans (teq (by decide : (0 : Int32) = (0 : Int32))).1) (pc' := 13) (by decide) (by decide) ?_
    refine f_ldcC A408 d24_13 (pc' := 15) rfl (by decide) (vs := [(.int (100 : Int32)), (.int (101 : Int32)), (.int (110 : Int32)), (.int (121 : Int32))]) (z := 4) ⟨by decide, by decide⟩ (by decide) (by decide) (wd hw 129 rfl) (strA hw) hEL (n := 16) (by decide) (by decide) (by decide) (by decide) fun a410 b410 kb410 vm410 T410 h410 A410 E410 C410 Li410 x410 fc410 fv410 av410 hs410 => ?_
    have G410 : Str Z h410 a410 b410 [(100 : Int32), (101 : Int32), (110 : Int32), (121 : Int32)] := strLit x410 fc410 fv410 av410 (Or.inl ⟨rfl, rfl, rfl, by decide⟩) (by decide) (by decide)
    have Q411 : Keep h0 h410 [] := Q406.ext E410
    refine f_aloadN A410 d24_15 (pc' := 16) rfl rfl rfl ?_
    have c412 := (c407.ext E410)
    refine f_callV A410 (a := a410) d24_16 (pc' := 19) rfl (wd hw 128 rfl) (wd hw 105 rfl) (nfS A410 (wd hw 107 rfl)) (wd hw 107 rfl) (wd hw 106 rfl) (by decide) x410 pd9 [(.ref x)] [] rfl rfl rfl 0 (Nat.le_of_eq rfl) (payEq (W := 0) A410 hw (wd hw 6 rfl) G410 c412 O2 P5 (by decide) (by decide)) (kc := 0) (ks := 0) (by decide) (by decide) all0 (fun _ => sf0) fun v413 T413 h413 L413 A413 K413 q413 => ?_
    obtain ⟨rfl, hh413⟩ := q413
    obtain rfl := hh413.symm
    show Wp pG e below _ T413 (mkF m 19 _ [(.int (if [(100 : Int32), (101 : Int32), (110 : Int32), (121 : Int32)] = cs then 1 else 0))])
    by_cases q1 : [(100 : Int32), (101 : Int32), (110 : Int32), (121 : Int32)] = cs
    · rw [if_pos q1]
      refine f_ifN A413 d24_19 ((if0 _ _).trans (feq (by decide : ¬ (1 : Int32) = (0 : Int32))).1) (pc' := 22) rfl ?_
      refine f_getS A413 d24_22 (pc' := 25) rfl (host := "") (Or.inl (wd hw 149 rfl)) Via.refl S1 fun T414 A414 => ?_
      exact f_retRW A414 hEL hlk hret d24_25 rfl rfl (by decide) (by decide) Q411 (by rw [vOf, if_neg q0, if_pos q1])
    · rw [if_neg q1]
      refine f_ifY A413 d24_19 ((if0 _ _).trans (teq (by decide : (0 : Int32) = (0 : Int32))).1) (pc' := 26) (by decide) (by decide) ?_
      refine f_ldcC A413 d24_26 (pc' := 28) rfl (by decide) (vs := [(.int (109 : Int32)), (.int (111 : Int32)), (.int (99 : Int32)), (.int (107 : Int32))]) (z := 4) ⟨by decide, by decide⟩ (by decide) (by decide) (wd hw 114 rfl) (strA hw) hEL (n := 16) (by decide) (by decide) (by decide) (by decide) fun a415 b415 kb415 vm415 T415 h415 A415 E415 C415 Li415 x415 fc415 fv415 av415 hs415 => ?_
      have G415 : Str Z h415 a415 b415 [(109 : Int32), (111 : Int32), (99 : Int32), (107 : Int32)] := strLit x415 fc415 fv415 av415 (Or.inl ⟨rfl, rfl, rfl, by decide⟩) (by decide) (by decide)
      have Q416 : Keep h0 h415 [] := Q411.ext E415
      refine f_aloadN A415 d24_28 (pc' := 29) rfl rfl rfl ?_
      have c417 := (c412.ext E415)
      refine f_callV A415 (a := a415) d24_29 (pc' := 32) rfl (wd hw 128 rfl) (wd hw 105 rfl) (nfS A415 (wd hw 107 rfl)) (wd hw 107 rfl) (wd hw 106 rfl) (by decide) x415 pd9 [(.ref x)] [] rfl rfl rfl 0 (Nat.le_of_eq rfl) (payEq (W := 0) A415 hw (wd hw 6 rfl) G415 c417 O2 P5 (by decide) (by decide)) (kc := 0) (ks := 0) (by decide) (by decide) all0 (fun _ => sf0) fun v418 T418 h418 L418 A418 K418 q418 => ?_
      obtain ⟨rfl, hh418⟩ := q418
      obtain rfl := hh418.symm
      show Wp pG e below _ T418 (mkF m 32 _ [(.int (if [(109 : Int32), (111 : Int32), (99 : Int32), (107 : Int32)] = cs then 1 else 0))])
      by_cases q2 : [(109 : Int32), (111 : Int32), (99 : Int32), (107 : Int32)] = cs
      · rw [if_pos q2]
        refine f_ifN A418 d24_32 ((if0 _ _).trans (feq (by decide : ¬ (1 : Int32) = (0 : Int32))).1) (pc' := 35) rfl ?_
        refine f_getS A418 d24_35 (pc' := 38) rfl (host := "") (Or.inl (wd hw 115 rfl)) Via.refl S2 fun T419 A419 => ?_
        exact f_retRW A419 hEL hlk hret d24_38 rfl rfl (by decide) (by decide) Q416 (by rw [vOf, if_neg q0, if_neg q1, if_pos q2])
      · rw [if_neg q2]
        refine f_ifY A418 d24_32 ((if0 _ _).trans (teq (by decide : (0 : Int32) = (0 : Int32))).1) (pc' := 39) (by decide) (by decide) ?_
        refine f_ldcC A418 d24_39 (pc' := 41) rfl (by decide) (vs := [(.int (108 : Int32)), (.int (111 : Int32)), (.int (103 : Int32))]) (z := 3) ⟨by decide, by decide⟩ (by decide) (by decide) (wd hw 116 rfl) (strA hw) hEL (n := 12) (by decide) (by decide) (by decide) (by decide) fun a420 b420 kb420 vm420 T420 h420 A420 E420 C420 Li420 x420 fc420 fv420 av420 hs420 => ?_
        have G420 : Str Z h420 a420 b420 [(108 : Int32), (111 : Int32), (103 : Int32)] := strLit x420 fc420 fv420 av420 (Or.inl ⟨rfl, rfl, rfl, by decide⟩) (by decide) (by decide)
        have Q421 : Keep h0 h420 [] := Q416.ext E420
        refine f_aloadN A420 d24_41 (pc' := 42) rfl rfl rfl ?_
        have c422 := (c417.ext E420)
        refine f_callV A420 (a := a420) d24_42 (pc' := 45) rfl (wd hw 128 rfl) (wd hw 105 rfl) (nfS A420 (wd hw 107 rfl)) (wd hw 107 rfl) (wd hw 106 rfl) (by decide) x420 pd9 [(.ref x)] [] rfl rfl rfl 0 (Nat.le_of_eq rfl) (payEq (W := 0) A420 hw (wd hw 6 rfl) G420 c422 O2 P5 (by decide) (by decide)) (kc := 0) (ks := 0) (by decide) (by decide) all0 (fun _ => sf0) fun v423 T423 h423 L423 A423 K423 q423 => ?_
        obtain ⟨rfl, hh423⟩ := q423
        obtain rfl := hh423.symm
        show Wp pG e below _ T423 (mkF m 45 _ [(.int (if [(108 : Int32), (111 : Int32), (103 : Int32)] = cs then 1 else 0))])
        by_cases q3 : [(108 : Int32), (111 : Int32), (103 : Int32)] = cs
        · rw [if_pos q3]
          refine f_ifN A423 d24_45 ((if0 _ _).trans (feq (by decide : ¬ (1 : Int32) = (0 : Int32))).1) (pc' := 48) rfl ?_
          refine f_getS A423 d24_48 (pc' := 51) rfl (host := "") (Or.inl (wd hw 117 rfl)) Via.refl S3 fun T424 A424 => ?_
          exact f_retRW A424 hEL hlk hret d24_51 rfl rfl (by decide) (by decide) Q421 (by rw [vOf, if_neg q0, if_neg q1, if_neg q2, if_pos q3])
        · rw [if_neg q3]
          refine f_ifY A423 d24_45 ((if0 _ _).trans (teq (by decide : (0 : Int32) = (0 : Int32))).1) (pc' := 52) (by decide) (by decide) ?_
          refine f_aconst_null A423 d24_52 (pc' := 53) rfl ?_
          exact f_retRW A423 hEL hlk hret d24_53 rfl rfl (by decide) (by decide) Q421 (by rw [vOf, if_neg q0, if_neg q1, if_neg q2, if_neg q3])
theorem lt4 {k : Int32} (q : 0 ≤ k.toInt ∧ k.toInt ≤ 3) : k = 0 ∨ k = 1 ∨ k = 2 ∨ k = 3 := by
  have : k.toInt = 0 ∨ k.toInt = 1 ∨ k.toInt = 2 ∨ k.toInt = 3 := by omega
  rcases this with z | z | z | z
  · exact Or.inl (Int32.toInt_inj.mp z)
  · exact Or.inr (Or.inl (Int32.toInt_inj.mp z))
  · exact Or.inr (Or.inr (Or.inl (Int32.toInt_inj.mp z)))
  · exact Or.inr (Or.inr (Or.inr (Int32.toInt_inj.mp z)))
theorem lt8 {k : Int32} (q : 0 ≤ k.toInt ∧ k.toInt ≤ 7) : k = 0 ∨ k = 1 ∨ k = 2 ∨ k = 3 ∨ k = 4 ∨ k = 5 ∨ k = 6 ∨ k = 7 := by
  have : k.toInt = 0 ∨ k.toInt = 1 ∨ k.toInt = 2 ∨ k.toInt = 3 ∨ k.toInt = 4 ∨ k.toInt = 5 ∨ k.toInt = 6 ∨ k.toInt = 7 := by omega
  rcases this with z | z | z | z | z | z | z | z
  · exact Or.inl (Int32.toInt_inj.mp z)
  · exact Or.inr (Or.inl (Int32.toInt_inj.mp z))
  · exact Or.inr (Or.inr (Or.inl (Int32.toInt_inj.mp z)))
  · exact Or.inr (Or.inr (Or.inr (Or.inl (Int32.toInt_inj.mp z))))
  · exact Or.inr (Or.inr (Or.inr (Or.inr (Or.inl (Int32.toInt_inj.mp z)))))
  · exact Or.inr (Or.inr (Or.inr (Or.inr (Or.inr (Or.inl (Int32.toInt_inj.mp z))))))
  · exact Or.inr (Or.inr (Or.inr (Or.inr (Or.inr (Or.inr (Or.inl (Int32.toInt_inj.mp z)))))))
  · exact Or.inr (Or.inr (Or.inr (Or.inr (Or.inr (Or.inr (Or.inr (Int32.toInt_inj.mp z)))))))
theorem pd14 : parseMethodDescriptor "(I)Ljava/lang/String;" = some ⟨[.int], some (.object "java/lang/String")⟩ := by decide +kernel
theorem pd15 : parseMethodDescriptor "(I)Lcom/example/confinement/confinement/policy/Verdict;" = some ⟨[.int], some (.object "com/example/confinement/confinement/policy/Verdict")⟩ := by decide +kernel
theorem pd16 : parseMethodDescriptor "(Ljava/lang/String;I)[C" = some ⟨[(.object "java/lang/String"), .int], some (.array .char)⟩ := by decide +kernel
theorem pd17 : parseMethodDescriptor "([C)V" = some ⟨[(.array .char)], none⟩ := by decide +kernel
theorem pd18 : parseMethodDescriptor "(Ljava/lang/String;)Lcom/example/confinement/confinement/policy/Verdict;" = some ⟨[(.object "java/lang/String")], some (.object "com/example/confinement/confinement/policy/Verdict")⟩ := by decide +kernel
theorem pd19 : parseMethodDescriptor "(JI)[C" = some ⟨[.long, .int], some (.array .char)⟩ := by decide +kernel
set_option maxRecDepth 65536 in
set_option maxHeartbeats 40000000 in
theorem m_law (l : Launch) (Z : State) (a0 : Array Value) (hw : ∀ d ∈ tables_1, d.before a0 Z = true) (ws : List Jvm.Cond) (sel pos ch : Int32) (bytes : Int64) (aA aD aM aL vv : Addr) (Oa : Sta Z Z.heap "java/lang/StringUTF16" "$assertionsDisabled" "Z" (.int 1)) (Oh : Sta Z Z.heap "java/lang/StringUTF16" "HI_BYTE_SHIFT" "I" (.int 0)) (Ol : Sta Z Z.heap "java/lang/StringUTF16" "LO_BYTE_SHIFT" "I" (.int 8)) (zc : Int32) (O2 : Sta Z Z.heap "java/lang/String" "COMPACT_STRINGS" "Z" (.int zc)) (P5 : ¬ zc = 0) (fm : Value) (O4 : Sta Z Z.heap "jdk/internal/util/Preconditions" "SIOOBE_FORMATTER" "Ljava/util/function/BiFunction;" fm) (rG3 : fm.isRef = true) (h0 : Heap) (n0 : Nat) (ho : Old Z n0 h0) (hEL : EW Z a0 ELs) (hV : Verd Z aA aD aM aL vv) :
    CW l x code maxLocals ret ws room_1 Z ELs [] n0 h0 #[(.int sel), (.int pos), (.int ch), (.long bytes)] [] (fun v h => v = some (.int 1)) := by
  refine CW.walk (plainFor_of_name pn3) ho (L0 := #[.val (.int sel), .val (.int pos), .val (.int ch), .val (.long bytes), .second, .unset, .unset, .unset, .unset, .unset, .unset, .unset, .unset, .unset, .unset]) (fun m => rfl) ?_
  intro pG e s m below meth cO T hlk hret hnm hSL A0
  have K0 : Keep h0 h0 [] := Keep.refl _ _
  obtain ⟨d0, hd0⟩ : ∃ z, byC bytes 0 = z := ⟨_, rfl⟩
  have rd0 := hd0 ▸ byC_rng bytes 0
  obtain ⟨d1, hd1⟩ : ∃ z, byC bytes 1 = z := ⟨_, rfl⟩
  have rd1 := hd1 ▸ byC_rng bytes 1
  obtain ⟨d2, hd2⟩ : ∃ z, byC bytes 2 = z := ⟨_, rfl⟩
  have rd2 := hd2 ▸ byC_rng bytes 2
  obtain ⟨d3, hd3⟩ : ∃ z, byC bytes 3 = z := ⟨_, rfl⟩
  have rd3 := hd3 ▸ byC_rng bytes 3
  obtain ⟨d4, hd4⟩ : ∃ z, byC bytes 4 = z := ⟨_, rfl⟩
  have rd4 := hd4 ▸ byC_rng bytes 4
  obtain ⟨d5, hd5⟩ : ∃ z, byC bytes 5 = z := ⟨_, rfl⟩
  have rd5 := hd5 ▸ byC_rng bytes 5
  obtain ⟨d6, hd6⟩ : ∃ z, byC bytes 6 = z := ⟨_, rfl⟩
  have rd6 := hd6 ▸ byC_rng bytes 6
  obtain ⟨k, hk⟩ : ∃ k, sel &&& 3 = k := ⟨_, rfl⟩
  have hk4 := lt4 (hk ▸ c_and sel 3 (by decide))
  obtain ⟨mo, hmo⟩ : ∃ k, ((sel.toUInt32 >>> ((2 : Int32) &&& 31).toUInt32).toInt32) &&& 3 = k := ⟨_, rfl⟩
  have hm4 := lt4 (hmo ▸ c_and _ 3 (by decide))
  obtain ⟨c1, hc1⟩ : ∃ z, ch.toUInt32.toUInt16.toUInt32.toInt32 = z := ⟨_, rfl⟩
  have rc1 := hc1 ▸ chr_rng ch
  obtain ⟨c3, hc3⟩ : ∃ z, ((ch.toUInt32 >>> ((1 : Int32) &&& 31).toUInt32).toInt32).toUInt32.toUInt16.toUInt32.toInt32 = z := ⟨_, rfl⟩
  have rc3 := hc3 ▸ chr_rng _
  obtain ⟨kA, kD, kM, kL, tA, tD, tM, tL, kV, S0, E0, F0, G0, S1, E1, F1, G1, S2, E2, F2, G2, S3, E3, F3, G3, SV, EV, VV⟩ := id hV
  rcases hk4 with rfl | rfl | rfl | rfl
  · refine f_iloadN A0 at_0 (pc' := 1) rfl rfl ?_
    refine f_iconst A0 at_1 (pc' := 2) rfl 3 rfl ?_
    refine f_iand A0 at_2 (pc' := 3) rfl (0 : Int32) hk ?_
    refine f_istore A0 at_3 (pc' := 5) rfl (L' := #[.val (.int sel), .val (.int pos), .val (.int ch), .val (.long bytes), .second, .val (.int (0 : Int32)), .unset, .unset, .unset, .unset, .unset, .unset, .unset, .unset, .unset]) rfl ?_
    refine f_iloadN A0 at_5 (pc' := 6) rfl rfl ?_
    refine f_iconst A0 at_6 (pc' := 7) rfl 2 rfl ?_
    refine f_iushr A0 at_7 (pc' := 8) rfl ((sel.toUInt32 >>> ((2 : Int32) &&& 31).toUInt32).toInt32) rfl ?_
    refine f_iconst A0 at_8 (pc' := 9) rfl 3 rfl ?_
    refine f_iand A0 at_9 (pc' := 10) rfl mo hmo ?_
    refine f_istore A0 at_10 (pc' := 12) rfl (L' := #[.val (.int sel), .val (.int pos), .val (.int ch), .val (.long bytes), .second, .val (.int (0 : Int32)), .val (.int mo), .unset, .unset, .unset, .unset, .unset, .unset, .unset, .unset]) rfl ?_
    refine f_iload A0 at_12 (pc' := 14) rfl rfl ?_
    refine f_callSW A0 at_14 (pc' := 17) rfl (wd hw 0 rfl) (wd hw 1 rfl) (wd hw 2 rfl) (wd hw 3 rfl) (by decide) pd14 [(.int (0 : Int32))] [] rfl rfl rfl 0 (Nat.le_of_eq rfl) (CW.pay (W := 0) A0 hEL (m_kw0 l Z a0 hw h0 n0 A0.old hEL) (wd hw 3 rfl) (wd hw 2 rfl) (by decide) (by decide) (fun _ q => nomatch q)) (kc := 2) (ks := 24) (by decide) (by decide) all0 fun v425 vm425 T425 h425 L425 A425 K425 C425 q425 => ?_
    have Q426 : Keep h0 h425 [] := K0.trans K425 all0
    obtain ⟨w425, u425, rfl, G425⟩ := q425
    show Wp pG e below _ T425 (mkF m 17 _ [(.ref w425)])
    refine f_astore A425 at_17 (pc' := 19) rfl rfl (L' := #[.val (.int sel), .val (.int pos), .val (.int ch), .val (.long bytes), .second, .val (.int (0 : Int32)), .val (.int mo), .val (.ref w425), .unset, .unset, .unset, .unset, .unset, .unset, .unset]) rfl ?_
    refine f_iload A425 at_19 (pc' := 21) rfl rfl ?_
    refine f_callS A425 at_21 (pc' := 24) rfl (wd hw 12 rfl) (wd hw 13 rfl) (wd hw 2 rfl) (wd hw 14 rfl) (by decide) pd15 [(.int (0 : Int32))] [] rfl rfl rfl 0 (Nat.le_of_eq rfl) (CN.pay (W := 0) A425 (m_ek0 l Z a0 hw aA aD aM aL vv h425 n0 A425.old hV) (wd hw 14 rfl) (wd hw 2 rfl) (by decide) (by decide)) (kc := 0) (ks := 0) (by decide) (by decide) all0 (fun _ => sf0) fun v427 T427 h427 L427 A427 K427 q427 => ?_
    obtain ⟨rfl, hh427⟩ := q427
    obtain rfl := hh427.symm
    show Wp pG e below _ T427 (mkF m 24 _ [(.ref aA)])
    refine f_astore A427 at_24 (pc' := 26) rfl rfl (L' := #[.val (.int sel), .val (.int pos), .val (.int ch), .val (.long bytes), .second, .val (.int (0 : Int32)), .val (.int mo), .val (.ref w425), .val (.ref aA), .unset, .unset, .unset, .unset, .unset, .unset]) rfl ?_
    refine f_aload A427 at_26 (pc' := 28) rfl rfl rfl ?_
    refine f_callV A427 (a := w425) at_28 (pc' := 31) rfl (wd hw 18 rfl) (wd hw 19 rfl) (nfS A427 (wd hw 21 rfl)) (wd hw 21 rfl) (wd hw 20 rfl) (by decide) G425.exa pd11 [] [] rfl rfl rfl 0 (Nat.le_of_eq rfl) (payLen (W := 0) A427 hw (wd hw 6 rfl) G425 O2 P5 (by decide) (by decide)) (kc := 0) (ks := 0) (by decide) (by decide) all0 (fun _ => sf0) fun v428 T428 h428 L428 A428 K428 q428 => ?_
    obtain ⟨rfl, hh428⟩ := q428
    obtain rfl := hh428.symm
    show Wp pG e below _ T428 (mkF m 31 _ [(.int (5 : Int32))])
    refine f_istore A428 at_31 (pc' := 33) rfl (L' := #[.val (.int sel), .val (.int pos), .val (.int ch), .val (.long bytes), .second, .val (.int (0 : Int32)), .val (.int mo), .val (.ref w425), .val (.ref aA), .val (.int (5 : Int32)), .unset, .unset, .unset, .unset, .unset]) rfl ?_
    rcases hm4 with rfl | rfl | rfl | rfl
    · refine f_iload A428 at_33 (pc' := 35) rfl rfl ?_
      refine f_ifN A428 at_35 ((if0 _ _).trans (teq (by decide : (0 : Int32) = (0 : Int32))).2) (pc' := 38) rfl ?_
      refine f_new A428 at_38 (pc' := 41) rfl (wd hw 31 rfl) (wd hw 6 rfl) (wd hw 5 rfl) (by decide) (by decide) fun a429 T429 h429 g429 A429 E429 X429 D429 => ?_
      have z429 : n0 ≤ a429 := Nat.le_trans A428.sz (Nat.le_of_eq g429.symm)
      have y429 : h0.size ≤ a429 := Nat.le_trans Q426.1 (Nat.le_of_eq g429.symm)
      have Q430 : Keep h0 h429 [] := Q426.ext E429
      have s429 := Safe.ext E429 (A428.ch rfl).1 (Safe.new (Nat.le_of_eq g429.symm))
      refine f_dup A429 at_41 (pc' := 42) rfl rfl ?_
      refine f_aload A429 at_42 (pc' := 44) rfl rfl rfl ?_
      refine f_iload A429 at_44 (pc' := 46) rfl rfl ?_
      have c431 := (G425.ext E429)
      refine f_callS A429 at_46 (pc' := 49) rfl (wd hw 32 rfl) (wd hw 33 rfl) (wd hw 2 rfl) (wd hw 34 rfl) (by decide) pd16 [(.ref w425), (.int (5 : Int32))] [(.ref a429), (.ref a429)] rfl rfl rfl 2 (Nat.le_of_eq rfl) (CN.pay (W := 2) A429 (m_ck00 l Z a0 hw w425 u425 zc O2 P5 fm O4 rG3 h429 n0 A429.old c431) (wd hw 34 rfl) (wd hw 2 rfl) (by decide) (by decide)) (kc := 1) (ks := 5) (by decide) (by decide) all0 (fun _ => sf0) fun v432 T432 h432 L432 A432 K432 q432 => ?_
      have Q433 : Keep h0 h432 [] := Q430.trans K432 all0
      obtain ⟨b432, kA432, rfl, bg432, V432⟩ := q432
      show Wp pG e below _ T432 (mkF m 49 _ [(.ref b432), (.ref a429), (.ref a429)])
      have c434 := (X429.keep K432)
      have c435 := ((show Fld Z h429 a429 "java/lang/String" "value" "[B" .null from D429 (Or.inr (wd hw 8 rfl)) (ty := (.array .byte)) (by decide)).keep K432 nin0)
      have c436 := ((show Fld Z h429 a429 "java/lang/String" "coder" "B" (.int (0 : Int32)) from D429 (Or.inr (wd hw 9 rfl)) (ty := .byte) (by decide)).keep K432 nin0)
      have c438 := (Safe.keep K432 sf0 (A429.ch rfl).1 s429)
      refine f_callI A432 (a := a429) at_49 (pc' := 52) rfl rfl (wd hw 61 rfl) (wd hw 62 rfl) (wd hw 63 rfl) (by decide) pd17 [(.ref b432)] [(.ref a429)] rfl rfl rfl 1 (Nat.le_of_eq rfl) (payNew (W := 1) A432 hw (wd hw 6 rfl) (cs := [(97 : Int32), (108 : Int32), (108 : Int32), (111 : Int32), (119 : Int32)]) 5 z429 c434 c435 c436 V432 O2 P5 rfl rfl (by decide) (by decide) (by decide) (by decide) (by decide)) (kc := 1) (ks := 5) (by decide) (by decide) (allS z429 all0) (fun _ => (sfS c438 sf0)) fun v437 T437 h437 L437 A437 K437 q437 => ?_
      have Q439 : Keep h0 h437 [] := Q433.trans K437 (allS (Or.inr y429) all0)
      obtain ⟨rfl, t437, tz437, tg437, tn437, G437⟩ := q437
      show Wp pG e below _ T437 (mkF m 52 _ [(.ref a429)])
      refine f_callS A437 at_52 (pc' := 55) rfl (wd hw 81 rfl) (wd hw 82 rfl) (wd hw 16 rfl) (wd hw 83 rfl) (by decide) pd18 [(.ref a429)] [] rfl rfl rfl 0 (Nat.le_of_eq rfl) (CN.pay (W := 0) A437 (m_fk l Z a0 hw aA aD aM aL vv a429 t437 [(97 : Int32), (108 : Int32), (108 : Int32), (111 : Int32), (119 : Int32)] (.ref aA) zc O2 P5 h437 n0 A437.old hV G437 rfl) (wd hw 83 rfl) (wd hw 16 rfl) (by decide) (by decide)) (kc := 1) (ks := 4) (by decide) (by decide) all0 (fun _ => sf0) fun v440 T440 h440 L440 A440 K440 q440 => ?_
      have Q441 : Keep h0 h440 [] := Q439.trans K440 all0
      obtain rfl := q440
      show Wp pG e below _ T440 (mkF m 55 _ [(.ref aA)])
      refine f_aload A440 at_55 (pc' := 57) rfl rfl rfl ?_
      refine f_acmp A440 rfl rfl at_57 true (decide_eq_true rfl) (by decide) (pc' := 60) (by decide) ?_
      refine f_iconst A440 at_60 (pc' := 61) rfl 1 rfl ?_
      refine f_goto A440 at_61 (pc' := 65) (by decide) (by decide) ?_
      exact f_retBW A440 hEL hlk hret at_65 (by decide) (1 : Int32) (by decide) (by decide) (by decide) Q441 rfl
    · obtain ⟨P, hP, hPn⟩ := rem_pos pos 5 5 rfl (by decide)
      refine f_iload A428 at_33 (pc' := 35) rfl rfl ?_
      refine f_ifY A428 at_35 ((if0 _ _).trans (feq (by decide : ¬ (1 : Int32) = (0 : Int32))).2) (pc' := 66) (by decide) (by decide) ?_
      refine f_iload A428 at_66 (pc' := 68) rfl rfl ?_
      refine f_iconst A428 at_68 (pc' := 69) rfl 1 rfl ?_
      refine f_icN A428 at_69 (teq (by decide : (1 : Int32) = (1 : Int32))).2 (pc' := 72) rfl ?_
      refine f_aload A428 at_72 (pc' := 74) rfl rfl rfl ?_
      refine f_iload A428 at_74 (pc' := 76) rfl rfl ?_
      refine f_callS A428 at_76 (pc' := 79) rfl (wd hw 32 rfl) (wd hw 33 rfl) (wd hw 2 rfl) (wd hw 34 rfl) (by decide) pd16 [(.ref w425), (.int (5 : Int32))] [] rfl rfl rfl 0 (Nat.le_of_eq rfl) (CN.pay (W := 0) A428 (m_ck00 l Z a0 hw w425 u425 zc O2 P5 fm O4 rG3 h425 n0 A428.old G425) (wd hw 34 rfl) (wd hw 2 rfl) (by decide) (by decide)) (kc := 1) (ks := 5) (by decide) (by decide) all0 (fun _ => sf0) fun v442 T442 h442 L442 A442 K442 q442 => ?_
      have Q443 : Keep h0 h442 [] := Q426.trans K442 all0
      obtain ⟨b442, kA442, rfl, bg442, V442⟩ := q442
      show Wp pG e below _ T442 (mkF m 79 _ [(.ref b442)])
      refine f_astore A442 at_79 (pc' := 81) rfl rfl (L' := #[.val (.int sel), .val (.int pos), .val (.int ch), .val (.long bytes), .second, .val (.int (0 : Int32)), .val (.int (1 : Int32)), .val (.ref w425), .val (.ref aA), .val (.int (5 : Int32)), .val (.ref b442), .unset, .unset, .unset, .unset]) rfl ?_
      refine f_iloadN A442 at_81 (pc' := 82) rfl rfl ?_
      refine f_ldcI A442 at_82 (pc' := 84) rfl (wd hw 113 rfl) ?_
      refine f_iand A442 at_84 (pc' := 85) rfl (pos &&& (2147483647 : Int32)) rfl ?_
      refine f_iload A442 at_85 (pc' := 87) rfl rfl ?_
      refine f_irem A442 at_87 (pc' := 88) rfl (by decide) (Int32.ofNat P) hP ?_
      refine f_istore A442 at_88 (pc' := 90) rfl (L' := #[.val (.int sel), .val (.int pos), .val (.int ch), .val (.long bytes), .second, .val (.int (0 : Int32)), .val (.int (1 : Int32)), .val (.ref w425), .val (.ref aA), .val (.int (5 : Int32)), .val (.ref b442), .val (.int (Int32.ofNat P)), .unset, .unset, .unset]) rfl ?_
      refine f_iloadN A442 at_90 (pc' := 91) rfl rfl ?_
      refine f_i2c A442 at_91 (pc' := 92) rfl c1 hc1 ?_
      refine f_istore A442 at_92 (pc' := 94) rfl (L' := #[.val (.int sel), .val (.int pos), .val (.int ch), .val (.long bytes), .second, .val (.int (0 : Int32)), .val (.int (1 : Int32)), .val (.ref w425), .val (.ref aA), .val (.int (5 : Int32)), .val (.ref b442), .val (.int (Int32.ofNat P)), .val (.int c1), .unset, .unset]) rfl ?_
      refine f_aload A442 at_94 (pc' := 96) rfl rfl rfl ?_
      refine f_iload A442 at_96 (pc' := 98) rfl rfl ?_
      refine f_caload A442 at_98 (pc' := 99) rfl V442 (ofn_in hPn (by decide)) (v := (.int (([(97 : Int32), (108 : Int32), (108 : Int32), (111 : Int32), (119 : Int32)] : List Int32).getD P 0))) (by rw [ofn_clamp (by omega)]; exact getDm (cs := [(97 : Int32), (108 : Int32), (108 : Int32), (111 : Int32), (119 : Int32)]) _ hPn) ?_
      refine f_istore A442 at_99 (pc' := 101) rfl (L' := #[.val (.int sel), .val (.int pos), .val (.int ch), .val (.long bytes), .second, .val (.int (0 : Int32)), .val (.int (1 : Int32)), .val (.ref w425), .val (.ref aA), .val (.int (5 : Int32)), .val (.ref b442), .val (.int (Int32.ofNat P)), .val (.int c1), .val (.int (([(97 : Int32), (108 : Int32), (108 : Int32), (111 : Int32), (119 : Int32)] : List Int32).getD P 0)), .unset]) rfl ?_
      refine f_aload A442 at_101 (pc' := 103) rfl rfl rfl ?_
      refine f_iload A442 at_103 (pc' := 105) rfl rfl ?_
      refine f_iload A442 at_105 (pc' := 107) rfl rfl ?_
      refine f_castore A442 at_107 (pc' := 108) rfl V442 (ofn_in hPn (by decide)) P (ofn_clamp (by omega)) hPn c1 (nar_id rc1) (vs' := ((([(97 : Int32), (108 : Int32), (108 : Int32), (111 : Int32), (119 : Int32)] : List Int32).set P c1).map Value.int)) (by rw [List.map_set]; rfl) (Nat.le_trans A428.sz bg442) (fun _ => (Safe.arv A442.hZ.alike V442 (by decide))) fun T444 h444 A444 K444 V444 => ?_
      have Q445 : Keep h0 h444 [] := Q443.trans K444 (allS (Or.inr (Nat.le_trans Q426.1 bg442)) all0)
      by_cases q8 : (255 : Int32) < c1
      · by_cases qe : c1 = ([(97 : Int32), (108 : Int32), (108 : Int32), (111 : Int32), (119 : Int32)] : List Int32).getD P 0
        · refine f_new A444 at_108 (pc' := 111) rfl (wd hw 31 rfl) (wd hw 6 rfl) (wd hw 5 rfl) (by decide) (by decide) fun a446 T446 h446 g446 A446 E446 X446 D446 => ?_
          have z446 : n0 ≤ a446 := Nat.le_trans A444.sz (Nat.le_of_eq g446.symm)
          have y446 : h0.size ≤ a446 := Nat.le_trans Q445.1 (Nat.le_of_eq g446.symm)
          have Q447 : Keep h0 h446 [] := Q445.ext E446
          have s446 := Safe.ext E446 (A444.ch rfl).1 (Safe.new (Nat.le_of_eq g446.symm))
          refine f_dup A446 at_111 (pc' := 112) rfl rfl ?_
          refine f_aload A446 at_112 (pc' := 114) rfl rfl rfl ?_
          have c448 := (V444.ext E446)
          refine f_callI A446 (a := a446) at_114 (pc' := 117) rfl rfl (wd hw 61 rfl) (wd hw 62 rfl) (wd hw 63 rfl) (by decide) pd17 [(.ref b442)] [(.ref a446)] rfl rfl rfl 1 (Nat.le_of_eq rfl) (CN.pay (W := 1) A446 (m_new1W l Z a0 hw a446 b442 kA442 5 (([(97 : Int32), (108 : Int32), (108 : Int32), (111 : Int32), (119 : Int32)] : List Int32).set P c1) (.int 0) P Oa Oh Ol zc O2 P5 h446 n0 A446.old X446 (show Fld Z h446 a446 "java/lang/String" "value" "[B" .null from D446 (Or.inr (wd hw 8 rfl)) (ty := (.array .byte)) (by decide)) (show Fld Z h446 a446 "java/lang/String" "coder" "B" (.int (0 : Int32)) from D446 (Or.inr (wd hw 9 rfl)) (ty := .byte) (by decide)) z446 c448 (by rw [List.length_set]; rfl) (by decide) hPn (fun i hi => by rw [getD_set_ne hi]; have hq : ∀ i : Fin 5, ¬ (255 : Int32) < ([(97 : Int32), (108 : Int32), (108 : Int32), (111 : Int32), (119 : Int32)] : List Int32).getD i.val 0 := (by decide); exact hq ⟨i, Nat.lt_trans hi hPn⟩) (by rw [getD_set_eq hPn]; exact q8) (lat_set (by decide) (c16 rc1))) (wd hw 63 rfl) (wd hw 5 rfl) (by decide) (by decide)) (kc := 2) (ks := 108) (by decide) (by decide) (allS z446 all0) (fun _ => (sfS s446 sf0)) fun v449 T449 h449 L449 A449 K449 q449 => ?_
          have Q450 : Keep h0 h449 [] := Q447.trans K449 (allS (Or.inr y446) all0)
          obtain ⟨rfl, t449, tz449, tg449, tn449, G449⟩ := q449
          show Wp pG e below _ T449 (mkF m 117 _ [(.ref a446)])
          refine f_callS A449 at_117 (pc' := 120) rfl (wd hw 81 rfl) (wd hw 82 rfl) (wd hw 16 rfl) (wd hw 83 rfl) (by decide) pd18 [(.ref a446)] [] rfl rfl rfl 0 (Nat.le_of_eq rfl) (CN.pay (W := 0) A449 (m_fk l Z a0 hw aA aD aM aL vv a446 t449 (([(97 : Int32), (108 : Int32), (108 : Int32), (111 : Int32), (119 : Int32)] : List Int32).set P c1) (.ref aA) zc O2 P5 h449 n0 A449.old hV G449 (by rw [qe, set_self hPn]; rfl)) (wd hw 83 rfl) (wd hw 16 rfl) (by decide) (by decide)) (kc := 1) (ks := 4) (by decide) (by decide) all0 (fun _ => sf0) fun v451 T451 h451 L451 A451 K451 q451 => ?_
          have Q452 : Keep h0 h451 [] := Q450.trans K451 all0
          obtain rfl := q451
          show Wp pG e below _ T451 (mkF m 120 _ [(.ref aA)])
          refine f_astore A451 at_120 (pc' := 122) rfl rfl (L' := #[.val (.int sel), .val (.int pos), .val (.int ch), .val (.long bytes), .second, .val (.int (0 : Int32)), .val (.int (1 : Int32)), .val (.ref w425), .val (.ref aA), .val (.int (5 : Int32)), .val (.ref b442), .val (.int (Int32.ofNat P)), .val (.int c1), .val (.int (([(97 : Int32), (108 : Int32), (108 : Int32), (111 : Int32), (119 : Int32)] : List Int32).getD P 0)), .val (.ref aA)]) rfl ?_
          refine f_iload A451 at_122 (pc' := 124) rfl rfl ?_
          refine f_iload A451 at_124 (pc' := 126) rfl rfl ?_
          refine f_icN A451 at_126 (teq qe).2 (pc' := 129) rfl ?_
          refine f_aload A451 at_129 (pc' := 131) rfl rfl rfl ?_
          refine f_aload A451 at_131 (pc' := 133) rfl rfl rfl ?_
          refine f_acmp A451 rfl rfl at_133 true (decide_eq_true rfl) (by decide) (pc' := 136) (by decide) ?_
          refine f_iconst A451 at_136 (pc' := 137) rfl 1 rfl ?_
          refine f_goto A451 at_137 (pc' := 141) (by decide) (by decide) ?_
          exact f_retBW A451 hEL hlk hret at_141 (by decide) (1 : Int32) (by decide) (by decide) (by decide) Q452 rfl
        · refine f_new A444 at_108 (pc' := 111) rfl (wd hw 31 rfl) (wd hw 6 rfl) (wd hw 5 rfl) (by decide) (by decide) fun a453 T453 h453 g453 A453 E453 X453 D453 => ?_
          have z453 : n0 ≤ a453 := Nat.le_trans A444.sz (Nat.le_of_eq g453.symm)
          have y453 : h0.size ≤ a453 := Nat.le_trans Q445.1 (Nat.le_of_eq g453.symm)
          have Q454 : Keep h0 h453 [] := Q445.ext E453
          have s453 := Safe.ext E453 (A444.ch rfl).1 (Safe.new (Nat.le_of_eq g453.symm))
          refine f_dup A453 at_111 (pc' := 112) rfl rfl ?_
          refine f_aload A453 at_112 (pc' := 114) rfl rfl rfl ?_
          have c455 := (V444.ext E453)
          refine f_callI A453 (a := a453) at_114 (pc' := 117) rfl rfl (wd hw 61 rfl) (wd hw 62 rfl) (wd hw 63 rfl) (by decide) pd17 [(.ref b442)] [(.ref a453)] rfl rfl rfl 1 (Nat.le_of_eq rfl) (CN.pay (W := 1) A453 (m_new1W l Z a0 hw a453 b442 kA442 5 (([(97 : Int32), (108 : Int32), (108 : Int32), (111 : Int32), (119 : Int32)] : List Int32).set P c1) (.int 0) P Oa Oh Ol zc O2 P5 h453 n0 A453.old X453 (show Fld Z h453 a453 "java/lang/String" "value" "[B" .null from D453 (Or.inr (wd hw 8 rfl)) (ty := (.array .byte)) (by decide)) (show Fld Z h453 a453 "java/lang/String" "coder" "B" (.int (0 : Int32)) from D453 (Or.inr (wd hw 9 rfl)) (ty := .byte) (by decide)) z453 c455 (by rw [List.length_set]; rfl) (by decide) hPn (fun i hi => by rw [getD_set_ne hi]; have hq : ∀ i : Fin 5, ¬ (255 : Int32) < ([(97 : Int32), (108 : Int32), (108 : Int32), (111 : Int32), (119 : Int32)] : List Int32).getD i.val 0 := (by decide); exact hq ⟨i, Nat.lt_trans hi hPn⟩) (by rw [getD_set_eq hPn]; exact q8) (lat_set (by decide) (c16 rc1))) (wd hw 63 rfl) (wd hw 5 rfl) (by decide) (by decide)) (kc := 2) (ks := 108) (by decide) (by decide) (allS z453 all0) (fun _ => (sfS s453 sf0)) fun v456 T456 h456 L456 A456 K456 q456 => ?_
          have Q457 : Keep h0 h456 [] := Q454.trans K456 (allS (Or.inr y453) all0)
          obtain ⟨rfl, t456, tz456, tg456, tn456, G456⟩ := q456
          show Wp pG e below _ T456 (mkF m 117 _ [(.ref a453)])
          refine f_callS A456 at_117 (pc' := 120) rfl (wd hw 81 rfl) (wd hw 82 rfl) (wd hw 16 rfl) (wd hw 83 rfl) (by decide) pd18 [(.ref a453)] [] rfl rfl rfl 0 (Nat.le_of_eq rfl) (CN.pay (W := 0) A456 (m_fk l Z a0 hw aA aD aM aL vv a453 t456 (([(97 : Int32), (108 : Int32), (108 : Int32), (111 : Int32), (119 : Int32)] : List Int32).set P c1) .null zc O2 P5 h456 n0 A456.old hV G456 (set_no0 hPn qe)) (wd hw 83 rfl) (wd hw 16 rfl) (by decide) (by decide)) (kc := 1) (ks := 4) (by decide) (by decide) all0 (fun _ => sf0) fun v458 T458 h458 L458 A458 K458 q458 => ?_
          have Q459 : Keep h0 h458 [] := Q457.trans K458 all0
          obtain rfl := q458
          show Wp pG e below _ T458 (mkF m 120 _ [.null])
          refine f_astore A458 at_120 (pc' := 122) rfl rfl (L' := #[.val (.int sel), .val (.int pos), .val (.int ch), .val (.long bytes), .second, .val (.int (0 : Int32)), .val (.int (1 : Int32)), .val (.ref w425), .val (.ref aA), .val (.int (5 : Int32)), .val (.ref b442), .val (.int (Int32.ofNat P)), .val (.int c1), .val (.int (([(97 : Int32), (108 : Int32), (108 : Int32), (111 : Int32), (119 : Int32)] : List Int32).getD P 0)), .val .null]) rfl ?_
          refine f_iload A458 at_122 (pc' := 124) rfl rfl ?_
          refine f_iload A458 at_124 (pc' := 126) rfl rfl ?_
          refine f_icY A458 at_126 (feq qe).2 (pc' := 142) (by decide) (by decide) ?_
          refine f_aload A458 at_142 (pc' := 144) rfl rfl rfl ?_
          refine f_nonN A458 at_144 (pc' := 147) rfl ?_
          refine f_iconst A458 at_147 (pc' := 148) rfl 1 rfl ?_
          refine f_goto A458 at_148 (pc' := 152) (by decide) (by decide) ?_
          exact f_retBW A458 hEL hlk hret at_152 (by decide) (1 : Int32) (by decide) (by decide) (by decide) Q459 rfl
      · by_cases qe : c1 = ([(97 : Int32), (108 : Int32), (108 : Int32), (111 : Int32), (119 : Int32)] : List Int32).getD P 0
        · refine f_new A444 at_108 (pc' := 111) rfl (wd hw 31 rfl) (wd hw 6 rfl) (wd hw 5 rfl) (by decide) (by decide) fun a460 T460 h460 g460 A460 E460 X460 D460 => ?_
          have z460 : n0 ≤ a460 := Nat.le_trans A444.sz (Nat.le_of_eq g460.symm)
          have y460 : h0.size ≤ a460 := Nat.le_trans Q445.1 (Nat.le_of_eq g460.symm)
          have Q461 : Keep h0 h460 [] := Q445.ext E460
          have s460 := Safe.ext E460 (A444.ch rfl).1 (Safe.new (Nat.le_of_eq g460.symm))
          refine f_dup A460 at_111 (pc' := 112) rfl rfl ?_
          refine f_aload A460 at_112 (pc' := 114) rfl rfl rfl ?_
          have c462 := (V444.ext E460)
          refine f_callI A460 (a := a460) at_114 (pc' := 117) rfl rfl (wd hw 61 rfl) (wd hw 62 rfl) (wd hw 63 rfl) (by decide) pd17 [(.ref b442)] [(.ref a460)] rfl rfl rfl 1 (Nat.le_of_eq rfl) (payNew (W := 1) A460 hw (wd hw 6 rfl) (cs := (([(97 : Int32), (108 : Int32), (108 : Int32), (111 : Int32), (119 : Int32)] : List Int32).set P c1)) 5 z460 X460 (show Fld Z h460 a460 "java/lang/String" "value" "[B" .null from D460 (Or.inr (wd hw 8 rfl)) (ty := (.array .byte)) (by decide)) (show Fld Z h460 a460 "java/lang/String" "coder" "B" (.int (0 : Int32)) from D460 (Or.inr (wd hw 9 rfl)) (ty := .byte) (by decide)) c462 O2 P5 (by rw [List.length_set]; rfl) rfl (by decide) (by decide) (lat_set (by decide) (c8 rc1 q8)) (by decide) (by decide)) (kc := 1) (ks := 5) (by decide) (by decide) (allS z460 all0) (fun _ => (sfS s460 sf0)) fun v463 T463 h463 L463 A463 K463 q463 => ?_
          have Q464 : Keep h0 h463 [] := Q461.trans K463 (allS (Or.inr y460) all0)
          obtain ⟨rfl, t463, tz463, tg463, tn463, G463⟩ := q463
          show Wp pG e below _ T463 (mkF m 117 _ [(.ref a460)])
          refine f_callS A463 at_117 (pc' := 120) rfl (wd hw 81 rfl) (wd hw 82 rfl) (wd hw 16 rfl) (wd hw 83 rfl) (by decide) pd18 [(.ref a460)] [] rfl rfl rfl 0 (Nat.le_of_eq rfl) (CN.pay (W := 0) A463 (m_fk l Z a0 hw aA aD aM aL vv a460 t463 (([(97 : Int32), (108 : Int32), (108 : Int32), (111 : Int32), (119 : Int32)] : List Int32).set P c1) (.ref aA) zc O2 P5 h463 n0 A463.old hV G463 (by rw [qe, set_self hPn]; rfl)) (wd hw 83 rfl) (wd hw 16 rfl) (by decide) (by decide)) (kc := 1) (ks := 4) (by decide) (by decide) all0 (fun _ => sf0) fun v465 T465 h465 L465 A465 K465 q465 => ?_
          have Q466 : Keep h0 h465 [] := Q464.trans K465 all0
          obtain rfl := q465
          show Wp pG e below _ T465 (mkF m 120 _ [(.ref aA)])
          refine f_astore A465 at_120 (pc' := 122) rfl rfl (L' := #[.val (.int sel), .val (.int pos), .val (.int ch), .val (.long bytes), .second, .val (.int (0 : Int32)), .val (.int (1 : Int32)), .val (.ref w425), .val (.ref aA), .val (.int (5 : Int32)), .val (.ref b442), .val (.int (Int32.ofNat P)), .val (.int c1), .val (.int (([(97 : Int32), (108 : Int32), (108 : Int32), (111 : Int32), (119 : Int32)] : List Int32).getD P 0)), .val (.ref aA)]) rfl ?_
          refine f_iload A465 at_122 (pc' := 124) rfl rfl ?_
          refine f_iload A465 at_124 (pc' := 126) rfl rfl ?_
          refine f_icN A465 at_126 (teq qe).2 (pc' := 129) rfl ?_
          refine f_aload A465 at_129 (pc' := 131) rfl rfl rfl ?_
          refine f_aload A465 at_131 (pc' := 133) rfl rfl rfl ?_
          refine f_acmp A465 rfl rfl at_133 true (decide_eq_true rfl) (by decide) (pc' := 136) (by decide) ?_
          refine f_iconst A465 at_136 (pc' := 137) rfl 1 rfl ?_
          refine f_goto A465 at_137 (pc' := 141) (by decide) (by decide) ?_
          exact f_retBW A465 hEL hlk hret at_141 (by decide) (1 : Int32) (by decide) (by decide) (by decide) Q466 rfl
        · refine f_new A444 at_108 (pc' := 111) rfl (wd hw 31 rfl) (wd hw 6 rfl) (wd hw 5 rfl) (by decide) (by decide) fun a467 T467 h467 g467 A467 E467 X467 D467 => ?_
          have z467 : n0 ≤ a467 := Nat.le_trans A444.sz (Nat.le_of_eq g467.symm)
          have y467 : h0.size ≤ a467 := Nat.le_trans Q445.1 (Nat.le_of_eq g467.symm)
          have Q468 : Keep h0 h467 [] := Q445.ext E467
          have s467 := Safe.ext E467 (A444.ch rfl).1 (Safe.new (Nat.le_of_eq g467.symm))
          refine f_dup A467 at_111 (pc' := 112) rfl rfl ?_
          refine f_aload A467 at_112 (pc' := 114) rfl rfl rfl ?_
          have c469 := (V444.ext E467)
          refine f_callI A467 (a := a467) at_114 (pc' := 117) rfl rfl (wd hw 61 rfl) (wd hw 62 rfl) (wd hw 63 rfl) (by decide) pd17 [(.ref b442)] [(.ref a467)] rfl rfl rfl 1 (Nat.le_of_eq rfl) (payNew (W := 1) A467 hw (wd hw 6 rfl) (cs := (([(97 : Int32), (108 : Int32), (108 : Int32), (111 : Int32), (119 : Int32)] : List Int32).set P c1)) 5 z467 X467 (show Fld Z h467 a467 "java/lang/String" "value" "[B" .null from D467 (Or.inr (wd hw 8 rfl)) (ty := (.array .byte)) (by decide)) (show Fld Z h467 a467 "java/lang/String" "coder" "B" (.int (0 : Int32)) from D467 (Or.inr (wd hw 9 rfl)) (ty := .byte) (by decide)) c469 O2 P5 (by rw [List.length_set]; rfl) rfl (by decide) (by decide) (lat_set (by decide) (c8 rc1 q8)) (by decide) (by decide)) (kc := 1) (ks := 5) (by decide) (by decide) (allS z467 all0) (fun _ => (sfS s467 sf0)) fun v470 T470 h470 L470 A470 K470 q470 => ?_
          have Q471 : Keep h0 h470 [] := Q468.trans K470 (allS (Or.inr y467) all0)
          obtain ⟨rfl, t470, tz470, tg470, tn470, G470⟩ := q470
          show Wp pG e below _ T470 (mkF m 117 _ [(.ref a467)])
          refine f_callS A470 at_117 (pc' := 120) rfl (wd hw 81 rfl) (wd hw 82 rfl) (wd hw 16 rfl) (wd hw 83 rfl) (by decide) pd18 [(.ref a467)] [] rfl rfl rfl 0 (Nat.le_of_eq rfl) (CN.pay (W := 0) A470 (m_fk l Z a0 hw aA aD aM aL vv a467 t470 (([(97 : Int32), (108 : Int32), (108 : Int32), (111 : Int32), (119 : Int32)] : List Int32).set P c1) .null zc O2 P5 h470 n0 A470.old hV G470 (set_no0 hPn qe)) (wd hw 83 rfl) (wd hw 16 rfl) (by decide) (by decide)) (kc := 1) (ks := 4) (by decide) (by decide) all0 (fun _ => sf0) fun v472 T472 h472 L472 A472 K472 q472 => ?_
          have Q473 : Keep h0 h472 [] := Q471.trans K472 all0
          obtain rfl := q472
          show Wp pG e below _ T472 (mkF m 120 _ [.null])
          refine f_astore A472 at_120 (pc' := 122) rfl rfl (L' := #[.val (.int sel), .val (.int pos), .val (.int ch), .val (.long bytes), .second, .val (.int (0 : Int32)), .val (.int (1 : Int32)), .val (.ref w425), .val (.ref aA), .val (.int (5 : Int32)), .val (.ref b442), .val (.int (Int32.ofNat P)), .val (.int c1), .val (.int (([(97 : Int32), (108 : Int32), (108 : Int32), (111 : Int32), (119 : Int32)] : List Int32).getD P 0)), .val .null]) rfl ?_
          refine f_iload A472 at_122 (pc' := 124) rfl rfl ?_
          refine f_iload A472 at_124 (pc' := 126) rfl rfl ?_
          refine f_icY A472 at_126 (feq qe).2 (pc' := 142) (by decide) (by decide) ?_
          refine f_aload A472 at_142 (pc' := 144) rfl rfl rfl ?_
          refine f_nonN A472 at_144 (pc' := 147) rfl ?_
          refine f_iconst A472 at_147 (pc' := 148) rfl 1 rfl ?_
          refine f_goto A472 at_148 (pc' := 152) (by decide) (by decide) ?_
          exact f_retBW A472 hEL hlk hret at_152 (by decide) (1 : Int32) (by decide) (by decide) (by decide) Q473 rfl
    · obtain ⟨n8, hn8⟩ : ∃ z, pos &&& 7 = z := ⟨_, rfl⟩
      have hn9 := lt8 (hn8 ▸ c_and pos 7 (by decide))
      rcases hn9 with rfl | rfl | rfl | rfl | rfl | rfl | rfl | rfl
      · refine f_iload A428 at_33 (pc' := 35) rfl rfl ?_
        refine f_ifY A428 at_35 ((if0 _ _).trans (feq (by decide : ¬ (2 : Int32) = (0 : Int32))).2) (pc' := 66) (by decide) (by decide) ?_
        refine f_iload A428 at_66 (pc' := 68) rfl rfl ?_
        refine f_iconst A428 at_68 (pc' := 69) rfl 1 rfl ?_
        refine f_icY A428 at_69 (feq (by decide : ¬ (2 : Int32) = (1 : Int32))).2 (pc' := 153) (by decide) (by decide) ?_
        refine f_iload A428 at_153 (pc' := 155) rfl rfl ?_
        refine f_iconst A428 at_155 (pc' := 156) rfl 2 rfl ?_
        refine f_icN A428 at_156 (teq (by decide : (2 : Int32) = (2 : Int32))).2 (pc' := 159) rfl ?_
        refine f_new A428 at_159 (pc' := 162) rfl (wd hw 31 rfl) (wd hw 6 rfl) (wd hw 5 rfl) (by decide) (by decide) fun a474 T474 h474 g474 A474 E474 X474 D474 => ?_
        have z474 : n0 ≤ a474 := Nat.le_trans A428.sz (Nat.le_of_eq g474.symm)
        have y474 : h0.size ≤ a474 := Nat.le_trans Q426.1 (Nat.le_of_eq g474.symm)
        have Q475 : Keep h0 h474 [] := Q426.ext E474
        have s474 := Safe.ext E474 (A428.ch rfl).1 (Safe.new (Nat.le_of_eq g474.symm))
        refine f_dup A474 at_162 (pc' := 163) rfl rfl ?_
        refine f_lloadN A474 at_163 (pc' := 164) rfl rfl ?_
        refine f_iloadN A474 at_164 (pc' := 165) rfl rfl ?_
        refine f_bipush A474 at_165 (pc' := 167) rfl 7 rfl ?_
        refine f_iand A474 at_167 (pc' := 168) rfl (0 : Int32) hn8 ?_
        refine f_callS A474 at_168 (pc' := 171) rfl (wd hw 118 rfl) (wd hw 119 rfl) (wd hw 2 rfl) (wd hw 120 rfl) (by decide) pd19 [(.long bytes), (.int (0 : Int32))] [(.ref a474), (.ref a474)] rfl rfl rfl 2 (Nat.le_of_eq rfl) (CN.pay (W := 2) A474 (m_dc0 l Z a0 hw bytes d0 d1 d2 d3 d4 d5 d6 h474 n0 A474.old hd0 rd0 hd1 rd1 hd2 rd2 hd3 rd3 hd4 rd4 hd5 rd5 hd6 rd6) (wd hw 120 rfl) (wd hw 2 rfl) (by decide) (by decide)) (kc := 1) (ks := 0) (by decide) (by decide) all0 (fun _ => sf0) fun v476 T476 h476 L476 A476 K476 q476 => ?_
        have Q477 : Keep h0 h476 [] := Q475.trans K476 all0
        obtain ⟨b476, kA476, rfl, bg476, V476⟩ := q476
        show Wp pG e below _ T476 (mkF m 171 _ [(.ref b476), (.ref a474), (.ref a474)])
        have c478 := (X474.keep K476)
        have c479 := ((show Fld Z h474 a474 "java/lang/String" "value" "[B" .null from D474 (Or.inr (wd hw 8 rfl)) (ty := (.array .byte)) (by decide)).keep K476 nin0)
        have c480 := ((show Fld Z h474 a474 "java/lang/String" "coder" "B" (.int (0 : Int32)) from D474 (Or.inr (wd hw 9 rfl)) (ty := .byte) (by decide)).keep K476 nin0)
        have c482 := (Safe.keep K476 sf0 (A474.ch rfl).1 s474)
        refine f_callIW A476 (a := a474) at_171 (pc' := 174) rfl rfl (wd hw 61 rfl) (wd hw 62 rfl) (wd hw 63 rfl) (by decide) pd17 [(.ref b476)] [(.ref a474)] rfl rfl rfl 1 (Nat.le_of_eq rfl) (CW.pay (W := 1) A476 hEL (m_new1E l Z a0 hw a474 b476 kA476 [] h476 n0 A476.old hEL c478 c479 c480 z474 V476) (wd hw 63 rfl) (wd hw 5 rfl) (by decide) (by decide) (allS ⟨(Nat.lt_of_lt_of_le X474.lt K476.1), c482⟩ all0)) (kc := 2) (ks := 4) (by decide) (by decide) (allS z474 all0) fun v481 vm481 T481 h481 L481 A481 K481 C481 q481 => ?_
        have Q483 : Keep h0 h481 [] := Q477.trans K481 (allS (Or.inr y474) all0)
        obtain ⟨rfl, t481, G481⟩ := q481
        show Wp pG e below _ T481 (mkF m 174 _ [(.ref a474)])
        refine f_astore A481 at_174 (pc' := 176) rfl rfl (L' := #[.val (.int sel), .val (.int pos), .val (.int ch), .val (.long bytes), .second, .val (.int (0 : Int32)), .val (.int (2 : Int32)), .val (.ref w425), .val (.ref aA), .val (.int (5 : Int32)), .val (.ref a474), .unset, .unset, .unset, .unset]) rfl ?_
        refine f_aload A481 at_176 (pc' := 178) rfl rfl rfl ?_
        refine f_callS A481 at_178 (pc' := 181) rfl (wd hw 81 rfl) (wd hw 82 rfl) (wd hw 16 rfl) (wd hw 83 rfl) (by decide) pd18 [(.ref a474)] [] rfl rfl rfl 0 (Nat.le_of_eq rfl) (CN.pay (W := 0) A481 (m_fk l Z a0 hw aA aD aM aL vv a474 t481 [] (vOf aA aD aM aL []) zc O2 P5 h481 n0 A481.old hV G481 rfl) (wd hw 83 rfl) (wd hw 16 rfl) (by decide) (by decide)) (kc := 1) (ks := 4) (by decide) (by decide) all0 (fun _ => sf0) fun v484 T484 h484 L484 A484 K484 q484 => ?_
        have Q485 : Keep h0 h484 [] := Q483.trans K484 all0
        obtain rfl := q484
        show Wp pG e below _ T484 (mkF m 181 _ [(vOf aA aD aM aL [])])
        refine f_aload A484 at_181 (pc' := 183) rfl rfl rfl ?_
        have c486 := (G481.keep K484 nin0 nin0)
        refine f_callSW A484 at_183 (pc' := 186) rfl (wd hw 125 rfl) (wd hw 126 rfl) (wd hw 2 rfl) (wd hw 127 rfl) (by decide) pd18 [(.ref a474)] [(vOf aA aD aM aL [])] rfl rfl rfl 1 (by show Value.category (vOf aA aD aM aL []) + 0 ≤ 1; rw [cat_ref (vOf_ref _ _ _ _ _)]; exact Nat.le_refl _) (CW.pay (W := 1) A484 hEL (m_ref l Z a0 hw aA aD aM aL vv a474 t481 [] zc O2 P5 h484 n0 A484.old hEL hV c486) (wd hw 127 rfl) (wd hw 2 rfl) (by decide) (by decide) (fun _ q => nomatch q)) (kc := 8) (ks := 88) (by decide) (by decide) all0 fun v487 vm487 T487 h487 L487 A487 K487 C487 q487 => ?_
        have Q488 : Keep h0 h487 [] := Q485.trans K487 all0
        obtain rfl := q487
        show Wp pG e below _ T487 (mkF m 186 _ [(vOf aA aD aM aL []), (vOf aA aD aM aL [])])
        refine f_acmp A487 (vOf_ref _ _ _ _ _) (vOf_ref _ _ _ _ _) at_186 true (decide_eq_true rfl) (by decide) (pc' := 189) (by decide) ?_
        refine f_iconst A487 at_189 (pc' := 190) rfl 1 rfl ?_
        refine f_goto A487 at_190 (pc' := 194) (by decide) (by decide) ?_
        exact f_retBW A487 hEL hlk hret at_194 (by decide) (1 : Int32) (by decide) (by decide) (by decide) Q488 rfl
      · refine f_iload A428 at_33 (pc' := 35) rfl rfl ?_
        refine f_ifY A428 at_35 ((if0 _ _).trans (feq (by decide : ¬ (2 : Int32) = (0 : Int32))).2) (pc' := 66) (by decide) (by decide) ?_
        refine f_iload A428 at_66 (pc' := 68) rfl rfl ?_
        refine f_iconst A428 at_68 (pc' := 69) rfl 1 rfl ?_
        refine f_icY A428 at_69 (feq (by decide : ¬ (2 : Int32) = (1 : Int32))).2 (pc' := 153) (by decide) (by decide) ?_
        refine f_iload A428 at_153 (pc' := 155) rfl rfl ?_
        refine f_iconst A428 at_155 (pc' := 156) rfl 2 rfl ?_
        refine f_icN A428 at_156 (teq (by decide : (2 : Int32) = (2 : Int32))).2 (pc' := 159) rfl ?_
        refine f_new A428 at_159 (pc' := 162) rfl (wd hw 31 rfl) (wd hw 6 rfl) (wd hw 5 rfl) (by decide) (by decide) fun a489 T489 h489 g489 A489 E489 X489 D489 => ?_
        have z489 : n0 ≤ a489 := Nat.le_trans A428.sz (Nat.le_of_eq g489.symm)
        have y489 : h0.size ≤ a489 := Nat.le_trans Q426.1 (Nat.le_of_eq g489.symm)
        have Q490 : Keep h0 h489 [] := Q426.ext E489
        have s489 := Safe.ext E489 (A428.ch rfl).1 (Safe.new (Nat.le_of_eq g489.symm))
        refine f_dup A489 at_162 (pc' := 163) rfl rfl ?_
        refine f_lloadN A489 at_163 (pc' := 164) rfl rfl ?_
        refine f_iloadN A489 at_164 (pc' := 165) rfl rfl ?_
        refine f_bipush A489 at_165 (pc' := 167) rfl 7 rfl ?_
        refine f_iand A489 at_167 (pc' := 168) rfl (1 : Int32) hn8 ?_
        refine f_callS A489 at_168 (pc' := 171) rfl (wd hw 118 rfl) (wd hw 119 rfl) (wd hw 2 rfl) (wd hw 120 rfl) (by decide) pd19 [(.long bytes), (.int (1 : Int32))] [(.ref a489), (.ref a489)] rfl rfl rfl 2 (Nat.le_of_eq rfl) (CN.pay (W := 2) A489 (m_dc1 l Z a0 hw bytes d0 d1 d2 d3 d4 d5 d6 h489 n0 A489.old hd0 rd0 hd1 rd1 hd2 rd2 hd3 rd3 hd4 rd4 hd5 rd5 hd6 rd6) (wd hw 120 rfl) (wd hw 2 rfl) (by decide) (by decide)) (kc := 1) (ks := 1) (by decide) (by decide) all0 (fun _ => sf0) fun v491 T491 h491 L491 A491 K491 q491 => ?_
        have Q492 : Keep h0 h491 [] := Q490.trans K491 all0
        obtain ⟨b491, kA491, rfl, bg491, V491⟩ := q491
        show Wp pG e below _ T491 (mkF m 171 _ [(.ref b491), (.ref a489), (.ref a489)])
        have c493 := (X489.keep K491)
        have c494 := ((show Fld Z h489 a489 "java/lang/String" "value" "[B" .null from D489 (Or.inr (wd hw 8 rfl)) (ty := (.array .byte)) (by decide)).keep K491 nin0)
        have c495 := ((show Fld Z h489 a489 "java/lang/String" "coder" "B" (.int (0 : Int32)) from D489 (Or.inr (wd hw 9 rfl)) (ty := .byte) (by decide)).keep K491 nin0)
        have c497 := (Safe.keep K491 sf0 (A489.ch rfl).1 s489)
        refine f_callI A491 (a := a489) at_171 (pc' := 174) rfl rfl (wd hw 61 rfl) (wd hw 62 rfl) (wd hw 63 rfl) (by decide) pd17 [(.ref b491)] [(.ref a489)] rfl rfl rfl 1 (Nat.le_of_eq rfl) (payNew (W := 1) A491 hw (wd hw 6 rfl) (cs := [d0]) 1 z489 c493 c494 c495 V491 O2 P5 rfl rfl (by decide) (by decide) (lc (lat_of rd0) ln) (by decide) (by decide)) (kc := 1) (ks := 1) (by decide) (by decide) (allS z489 all0) (fun _ => (sfS c497 sf0)) fun v496 T496 h496 L496 A496 K496 q496 => ?_
        have Q498 : Keep h0 h496 [] := Q492.trans K496 (allS (Or.inr y489) all0)
        obtain ⟨rfl, t496, tz496, tg496, tn496, G496⟩ := q496
        show Wp pG e below _ T496 (mkF m 174 _ [(.ref a489)])
        refine f_astore A496 at_174 (pc' := 176) rfl rfl (L' := #[.val (.int sel), .val (.int pos), .val (.int ch), .val (.long bytes), .second, .val (.int (0 : Int32)), .val (.int (2 : Int32)), .val (.ref w425), .val (.ref aA), .val (.int (5 : Int32)), .val (.ref a489), .unset, .unset, .unset, .unset]) rfl ?_
        refine f_aload A496 at_176 (pc' := 178) rfl rfl rfl ?_
        refine f_callS A496 at_178 (pc' := 181) rfl (wd hw 81 rfl) (wd hw 82 rfl) (wd hw 16 rfl) (wd hw 83 rfl) (by decide) pd18 [(.ref a489)] [] rfl rfl rfl 0 (Nat.le_of_eq rfl) (CN.pay (W := 0) A496 (m_fk l Z a0 hw aA aD aM aL vv a489 t496 [d0] (vOf aA aD aM aL [d0]) zc O2 P5 h496 n0 A496.old hV G496 rfl) (wd hw 83 rfl) (wd hw 16 rfl) (by decide) (by decide)) (kc := 1) (ks := 4) (by decide) (by decide) all0 (fun _ => sf0) fun v499 T499 h499 L499 A499 K499 q499 => ?_
        have Q500 : Keep h0 h499 [] := Q498.trans K499 all0
        obtain rfl := q499
        show Wp pG e below _ T499 (mkF m 181 _ [(vOf aA aD aM aL [d0])])
        refine f_aload A499 at_181 (pc' := 183) rfl rfl rfl ?_
        have c501 := (G496.keep K499 nin0 nin0)
        refine f_callSW A499 at_183 (pc' := 186) rfl (wd hw 125 rfl) (wd hw 126 rfl) (wd hw 2 rfl) (wd hw 127 rfl) (by decide) pd18 [(.ref a489)] [(vOf aA aD aM aL [d0])] rfl rfl rfl 1 (by show Value.category (vOf aA aD aM aL [d0]) + 0 ≤ 1; rw [cat_ref (vOf_ref _ _ _ _ _)]; exact Nat.le_refl _) (CW.pay (W := 1) A499 hEL (m_ref l Z a0 hw aA aD aM aL vv a489 t496 [d0] zc O2 P5 h499 n0 A499.old hEL hV c501) (wd hw 127 rfl) (wd hw 2 rfl) (by decide) (by decide) (fun _ q => nomatch q)) (kc := 8) (ks := 88) (by decide) (by decide) all0 fun v502 vm502 T502 h502 L502 A502 K502 C502 q502 => ?_
        have Q503 : Keep h0 h502 [] := Q500.trans K502 all0
        obtain rfl := q502
        show Wp pG e below _ T502 (mkF m 186 _ [(vOf aA aD aM aL [d0]), (vOf aA aD aM aL [d0])])
        refine f_acmp A502 (vOf_ref _ _ _ _ _) (vOf_ref _ _ _ _ _) at_186 true (decide_eq_true rfl) (by decide) (pc' := 189) (by decide) ?_
        refine f_iconst A502 at_189 (pc' := 190) rfl 1 rfl ?_
        refine f_goto A502 at_190 (pc' := 194) (by decide) (by decide) ?_
        exact f_retBW A502 hEL hlk hret at_194 (by decide) (1 : Int32) (by decide) (by decide) (by decide) Q503 rfl
      · refine f_iload A428 at_33 (pc' := 35) rfl rfl ?_
        refine f_ifY A428 at_35 ((if0 _ _).trans (feq (by decide : ¬ (2 : Int32) = (0 : Int32))).2) (pc' := 66) (by decide) (by decide) ?_
        refine f_iload A428 at_66 (pc' := 68) rfl rfl ?_
        refine f_iconst A428 at_68 (pc' := 69) rfl 1 rfl ?_
        refine f_icY A428 at_69 (feq (by decide : ¬ (2 : Int32) = (1 : Int32))).2 (pc' := 153) (by decide) (by decide) ?_
        refine f_iload A428 at_153 (pc' := 155) rfl rfl ?_
        refine f_iconst A428 at_155 (pc' := 156) rfl 2 rfl ?_
        refine f_icN A428 at_156 (teq (by decide : (2 : Int32) = (2 : Int32))).2 (pc' := 159) rfl ?_
        refine f_new A428 at_159 (pc' := 162) rfl (wd hw 31 rfl) (wd hw 6 rfl) (wd hw 5 rfl) (by decide) (by decide) fun a504 T504 h504 g504 A504 E504 X504 D504 => ?_
        have z504 : n0 ≤ a504 := Nat.le_trans A428.sz (Nat.le_of_eq g504.symm)
        have y504 : h0.size ≤ a504 := Nat.le_trans Q426.1 (Nat.le_of_eq g504.symm)
        have Q505 : Keep h0 h504 [] := Q426.ext E504
        have s504 := Safe.ext E504 (A428.ch rfl).1 (Safe.new (Nat.le_of_eq g504.symm))
        refine f_dup A504 at_162 (pc' := 163) rfl rfl ?_
        refine f_lloadN A504 at_163 (pc' := 164) rfl rfl ?_
        refine f_iloadN A504 at_164 (pc' := 165) rfl rfl ?_
        refine f_bipush A504 at_165 (pc' := 167) rfl 7 rfl ?_
        refine f_iand A504 at_167 (pc' := 168) rfl (2 : Int32) hn8 ?_
        refine f_callS A504 at_168 (pc' := 171) rfl (wd hw 118 rfl) (wd hw 119 rfl) (wd hw 2 rfl) (wd hw 120 rfl) (by decide) pd19 [(.long bytes), (.int (2 : Int32))] [(.ref a504), (.ref a504)] rfl rfl rfl 2 (Nat.le_of_eq rfl) (CN.pay (W := 2) A504 (m_dc2 l Z a0 hw bytes d0 d1 d2 d3 d4 d5 d6 h504 n0 A504.old hd0 rd0 hd1 rd1 hd2 rd2 hd3 rd3 hd4 rd4 hd5 rd5 hd6 rd6) (wd hw 120 rfl) (wd hw 2 rfl) (by decide) (by decide)) (kc := 1) (ks := 2) (by decide) (by decide) all0 (fun _ => sf0) fun v506 T506 h506 L506 A506 K506 q506 => ?_
        have Q507 : Keep h0 h506 [] := Q505.trans K506 all0
        obtain ⟨b506, kA506, rfl, bg506, V506⟩ := q506
        show Wp pG e below _ T506 (mkF m 171 _ [(.ref b506), (.ref a504), (.ref a504)])
        have c508 := (X504.keep K506)
        have c509 := ((show Fld Z h504 a504 "java/lang/String" "value" "[B" .null from D504 (Or.inr (wd hw 8 rfl)) (ty := (.array .byte)) (by decide)).keep K506 nin0)
        have c510 := ((show Fld Z h504 a504 "java/lang/String" "coder" "B" (.int (0 : Int32)) from D504 (Or.inr (wd hw 9 rfl)) (ty := .byte) (by decide)).keep K506 nin0)
        have c512 := (Safe.keep K506 sf0 (A504.ch rfl).1 s504)
        refine f_callI A506 (a := a504) at_171 (pc' := 174) rfl rfl (wd hw 61 rfl) (wd hw 62 rfl) (wd hw 63 rfl) (by decide) pd17 [(.ref b506)] [(.ref a504)] rfl rfl rfl 1 (Nat.le_of_eq rfl) (payNew (W := 1) A506 hw (wd hw 6 rfl) (cs := [d0, d1]) 2 z504 c508 c509 c510 V506 O2 P5 rfl rfl (by decide) (by decide) (lc (lat_of rd0) (lc (lat_of rd1) ln)) (by decide) (by decide)) (kc := 1) (ks := 2) (by decide) (by decide) (allS z504 all0) (fun _ => (sfS c512 sf0)) fun v511 T511 h511 L511 A511 K511 q511 => ?_
        have Q513 : Keep h0 h511 [] := Q507.trans K511 (allS (Or.inr y504) all0)
        obtain ⟨rfl, t511, tz511, tg511, tn511, G511⟩ := q511
        show Wp pG e below _ T511 (mkF m 174 _ [(.ref a504)])
        refine f_astore A511 at_174 (pc' := 176) rfl rfl (L' := #[.val (.int sel), .val (.int pos), .val (.int ch), .val (.long bytes), .second, .val (.int (0 : Int32)), .val (.int (2 : Int32)), .val (.ref w425), .val (.ref aA), .val (.int (5 : Int32)), .val (.ref a504), .unset, .unset, .unset, .unset]) rfl ?_
        refine f_aload A511 at_176 (pc' := 178) rfl rfl rfl ?_
        refine f_callS A511 at_178 (pc' := 181) rfl (wd hw 81 rfl) (wd hw 82 rfl) (wd hw 16 rfl) (wd hw 83 rfl) (by decide) pd18 [(.ref a504)] [] rfl rfl rfl 0 (Nat.le_of_eq rfl) (CN.pay (W := 0) A511 (m_fk l Z a0 hw aA aD aM aL vv a504 t511 [d0, d1] (vOf aA aD aM aL [d0, d1]) zc O2 P5 h511 n0 A511.old hV G511 rfl) (wd hw 83 rfl) (wd hw 16 rfl) (by decide) (by decide)) (kc := 1) (ks := 4) (by decide) (by decide) all0 (fun _ => sf0) fun v514 T514 h514 L514 A514 K514 q514 => ?_
        have Q515 : Keep h0 h514 [] := Q513.trans K514 all0
        obtain rfl := q514
        show Wp pG e below _ T514 (mkF m 181 _ [(vOf aA aD aM aL [d0, d1])])
        refine f_aload A514 at_181 (pc' := 183) rfl rfl rfl ?_
        have c516 := (G511.keep K514 nin0 nin0)
        refine f_callSW A514 at_183 (pc' := 186) rfl (wd hw 125 rfl) (wd hw 126 rfl) (wd hw 2 rfl) (wd hw 127 rfl) (by decide) pd18 [(.ref a504)] [(vOf aA aD aM aL [d0, d1])] rfl rfl rfl 1 (by show Value.category (vOf aA aD aM aL [d0, d1]) + 0 ≤ 1; rw [cat_ref (vOf_ref _ _ _ _ _)]; exact Nat.le_refl _) (CW.pay (W := 1) A514 hEL (m_ref l Z a0 hw aA aD aM aL vv a504 t511 [d0, d1] zc O2 P5 h514 n0 A514.old hEL hV c516) (wd hw 127 rfl) (wd hw 2 rfl) (by decide) (by decide) (fun _ q => nomatch q)) (kc := 8) (ks := 88) (by decide) (by decide) all0 fun v517 vm517 T517 h517 L517 A517 K517 C517 q517 => ?_
        have Q518 : Keep h0 h517 [] := Q515.trans K517 all0
        obtain rfl := q517
        show Wp pG e below _ T517 (mkF m 186 _ [(vOf aA aD aM aL [d0, d1]), (vOf aA aD aM aL [d0, d1])])
        refine f_acmp A517 (vOf_ref _ _ _ _ _) (vOf_ref _ _ _ _ _) at_186 true (decide_eq_true rfl) (by decide) (pc' := 189) (by decide) ?_
        refine f_iconst A517 at_189 (pc' := 190) rfl 1 rfl ?_
        refine f_goto A517 at_190 (pc' := 194) (by decide) (by decide) ?_
        exact f_retBW A517 hEL hlk hret at_194 (by decide) (1 : Int32) (by decide) (by decide) (by decide) Q518 rfl
      · refine f_iload A428 at_33 (pc' := 35) rfl rfl ?_
        refine f_ifY A428 at_35 ((if0 _ _).trans (feq (by decide : ¬ (2 : Int32) = (0 : Int32))).2) (pc' := 66) (by decide) (by decide) ?_
        refine f_iload A428 at_66 (pc' := 68) rfl rfl ?_
        refine f_iconst A428 at_68 (pc' := 69) rfl 1 rfl ?_
        refine f_icY A428 at_69 (feq (by decide : ¬ (2 : Int32) = (1 : Int32))).2 (pc' := 153) (by decide) (by decide) ?_
        refine f_iload A428 at_153 (pc' := 155) rfl rfl ?_
        refine f_iconst A428 at_155 (pc' := 156) rfl 2 rfl ?_
        refine f_icN A428 at_156 (teq (by decide : (2 : Int32) = (2 : Int32))).2 (pc' := 159) rfl ?_
        refine f_new A428 at_159 (pc' := 162) rfl (wd hw 31 rfl) (wd hw 6 rfl) (wd hw 5 rfl) (by decide) (by decide) fun a519 T519 h519 g519 A519 E519 X519 D519 => ?_
        have z519 : n0 ≤ a519 := Nat.le_trans A428.sz (Nat.le_of_eq g519.symm)
        have y519 : h0.size ≤ a519 := Nat.le_trans Q426.1 (Nat.le_of_eq g519.symm)
        have Q520 : Keep h0 h519 [] := Q426.ext E519
        have s519 := Safe.ext E519 (A428.ch rfl).1 (Safe.new (Nat.le_of_eq g519.symm))
        refine f_dup A519 at_162 (pc' := 163) rfl rfl ?_
        refine f_lloadN A519 at_163 (pc' := 164) rfl rfl ?_
        refine f_iloadN A519 at_164 (pc' := 165) rfl rfl ?_
        refine f_bipush A519 at_165 (pc' := 167) rfl 7 rfl ?_
        refine f_iand A519 at_167 (pc' := 168) rfl (3 : Int32) hn8 ?_
        refine f_callS A519 at_168 (pc' := 171) rfl (wd hw 118 rfl) (wd hw 119 rfl) (wd hw 2 rfl) (wd hw 120 rfl) (by decide) pd19 [(.long bytes), (.int (3 : Int32))] [(.ref a519), (.ref a519)] rfl rfl rfl 2 (Nat.le_of_eq rfl) (CN.pay (W := 2) A519 (m_dc3 l Z a0 hw bytes d0 d1 d2 d3 d4 d5 d6 h519 n0 A519.old hd0 rd0 hd1 rd1 hd2 rd2 hd3 rd3 hd4 rd4 hd5 rd5 hd6 rd6) (wd hw 120 rfl) (wd hw 2 rfl) (by decide) (by decide)) (kc := 1) (ks := 3) (by decide) (by decide) all0 (fun _ => sf0) fun v521 T521 h521 L521 A521 K521 q521 => ?_
        have Q522 : Keep h0 h521 [] := Q520.trans K521 all0
        obtain ⟨b521, kA521, rfl, bg521, V521⟩ := q521
        show Wp pG e below _ T521 (mkF m 171 _ [(.ref b521), (.ref a519), (.ref a519)])
        have c523 := (X519.keep K521)
        have c524 := ((show Fld Z h519 a519 "java/lang/String" "value" "[B" .null from D519 (Or.inr (wd hw 8 rfl)) (ty := (.array .byte)) (by decide)).keep K521 nin0)
        have c525 := ((show Fld Z h519 a519 "java/lang/String" "coder" "B" (.int (0 : Int32)) from D519 (Or.inr (wd hw 9 rfl)) (ty := .byte) (by decide)).keep K521 nin0)
        have c527 := (Safe.keep K521 sf0 (A519.ch rfl).1 s519)
        refine f_callI A521 (a := a519) at_171 (pc' := 174) rfl rfl (wd hw 61 rfl) (wd hw 62 rfl) (wd hw 63 rfl) (by decide) pd17 [(.ref b521)] [(.ref a519)] rfl rfl rfl 1 (Nat.le_of_eq rfl) (payNew (W := 1) A521 hw (wd hw 6 rfl) (cs := [d0, d1, d2]) 3 z519 c523 c524 c525 V521 O2 P5 rfl rfl (by decide) (by decide) (lc (lat_of rd0) (lc (lat_of rd1) (lc (lat_of rd2) ln))) (by decide) (by decide)) (kc := 1) (ks := 3) (by decide) (by decide) (allS z519 all0) (fun _ => (sfS c527 sf0)) fun v526 T526 h526 L526 A526 K526 q526 => ?_
        have Q528 : Keep h0 h526 [] := Q522.trans K526 (allS (Or.inr y519) all0)
        obtain ⟨rfl, t526, tz526, tg526, tn526, G526⟩ := q526
        show Wp pG e below _ T526 (mkF m 174 _ [(.ref a519)])
        refine f_astore A526 at_174 (pc' := 176) rfl rfl (L' := #[.val (.int sel), .val (.int pos), .val (.int ch), .val (.long bytes), .second, .val (.int (0 : Int32)), .val (.int (2 : Int32)), .val (.ref w425), .val (.ref aA), .val (.int (5 : Int32)), .val (.ref a519), .unset, .unset, .unset, .unset]) rfl ?_
        refine f_aload A526 at_176 (pc' := 178) rfl rfl rfl ?_
        refine f_callS A526 at_178 (pc' := 181) rfl (wd hw 81 rfl) (wd hw 82 rfl) (wd hw 16 rfl) (wd hw 83 rfl) (by decide) pd18 [(.ref a519)] [] rfl rfl rfl 0 (Nat.le_of_eq rfl) (CN.pay (W := 0) A526 (m_fk l Z a0 hw aA aD aM aL vv a519 t526 [d0, d1, d2] (vOf aA aD aM aL [d0, d1, d2]) zc O2 P5 h526 n0 A526.old hV G526 rfl) (wd hw 83 rfl) (wd hw 16 rfl) (by decide) (by decide)) (kc := 1) (ks := 4) (by decide) (by decide) all0 (fun _ => sf0) fun v529 T529 h529 L529 A529 K529 q529 => ?_
        have Q530 : Keep h0 h529 [] := Q528.trans K529 all0
        obtain rfl := q529
        show Wp pG e below _ T529 (mkF m 181 _ [(vOf aA aD aM aL [d0, d1, d2])])
        refine f_aload A529 at_181 (pc' := 183) rfl rfl rfl ?_
        have c531 := (G526.keep K529 nin0 nin0)
        refine f_callSW A529 at_183 (pc' := 186) rfl (wd hw 125 rfl) (wd hw 126 rfl) (wd hw 2 rfl) (wd hw 127 rfl) (by decide) pd18 [(.ref a519)] [(vOf aA aD aM aL [d0, d1, d2])] rfl rfl rfl 1 (by show Value.category (vOf aA aD aM aL [d0, d1, d2]) + 0 ≤ 1; rw [cat_ref (vOf_ref _ _ _ _ _)]; exact Nat.le_refl _) (CW.pay (W := 1) A529 hEL (m_ref l Z a0 hw aA aD aM aL vv a519 t526 [d0, d1, d2] zc O2 P5 h529 n0 A529.old hEL hV c531) (wd hw 127 rfl) (wd hw 2 rfl) (by decide) (by decide) (fun _ q => nomatch q)) (kc := 8) (ks := 88) (by decide) (by decide) all0 fun v532 vm532 T532 h532 L532 A532 K532 C532 q532 => ?_
        have Q533 : Keep h0 h532 [] := Q530.trans K532 all0
        obtain rfl := q532
        show Wp pG e below _ T532 (mkF m 186 _ [(vOf aA aD aM aL [d0, d1, d2]), (vOf aA aD aM aL [d0, d1, d2])])
        refine f_acmp A532 (vOf_ref _ _ _ _ _) (vOf_ref _ _ _ _ _) at_186 true (decide_eq_true rfl) (by decide) (pc' := 189) (by decide) ?_
        refine f_iconst A532 at_189 (pc' := 190) rfl 1 rfl ?_
        refine f_goto A532 at_190 (pc' := 194) (by decide) (by decide) ?_
        exact f_retBW A532 hEL hlk hret at_194 (by decide) (1 : Int32) (by decide) (by decide) (by decide) Q533 rfl
      · refine f_iload A428 at_33 (pc' := 35) rfl rfl ?_
        refine f_ifY A428 at_35 ((if0 _ _).trans (feq (by decide : ¬ (2 : Int32) = (0 : Int32))).2) (pc' := 66) (by decide) (by decide) ?_
        refine f_iload A428 at_66 (pc' := 68) rfl rfl ?_
        refine f_iconst A428 at_68 (pc' := 69) rfl 1 rfl ?_
        refine f_icY A428 at_69 (feq (by decide : ¬ (2 : Int32) = (1 : Int32))).2 (pc' := 153) (by decide) (by decide) ?_
        refine f_iload A428 at_153 (pc' := 155) rfl rfl ?_
        refine f_iconst A428 at_155 (pc' := 156) rfl 2 rfl ?_
        refine f_icN A428 at_156 (teq (by decide : (2 : Int32) = (2 : Int32))).2 (pc' := 159) rfl ?_
        refine f_new A428 at_159 (pc' := 162) rfl (wd hw 31 rfl) (wd hw 6 rfl) (wd hw 5 rfl) (by decide) (by decide) fun a534 T534 h534 g534 A534 E534 X534 D534 => ?_
        have z534 : n0 ≤ a534 := Nat.le_trans A428.sz (Nat.le_of_eq g534.symm)
        have y534 : h0.size ≤ a534 := Nat.le_trans Q426.1 (Nat.le_of_eq g534.symm)
        have Q535 : Keep h0 h534 [] := Q426.ext E534
        have s534 := Safe.ext E534 (A428.ch rfl).1 (Safe.new (Nat.le_of_eq g534.symm))
        refine f_dup A534 at_162 (pc' := 163) rfl rfl ?_
        refine f_lloadN A534 at_163 (pc' := 164) rfl rfl ?_
        refine f_iloadN A534 at_164 (pc' := 165) rfl rfl ?_
        refine f_bipush A534 at_165 (pc' := 167) rfl 7 rfl ?_
        refine f_iand A534 at_167 (pc' := 168) rfl (4 : Int32) hn8 ?_
        refine f_callS A534 at_168 (pc' := 171) rfl (wd hw 118 rfl) (wd hw 119 rfl) (wd hw 2 rfl) (wd hw 120 rfl) (by decide) pd19 [(.long bytes), (.int (4 : Int32))] [(.ref a534), (.ref a534)] rfl rfl rfl 2 (Nat.le_of_eq rfl) (CN.pay (W := 2) A534 (m_dc4 l Z a0 hw bytes d0 d1 d2 d3 d4 d5 d6 h534 n0 A534.old hd0 rd0 hd1 rd1 hd2 rd2 hd3 rd3 hd4 rd4 hd5 rd5 hd6 rd6) (wd hw 120 rfl) (wd hw 2 rfl) (by decide) (by decide)) (kc := 1) (ks := 4) (by decide) (by decide) all0 (fun _ => sf0) fun v536 T536 h536 L536 A536 K536 q536 => ?_
        have Q537 : Keep h0 h536 [] := Q535.trans K536 all0
        obtain ⟨b536, kA536, rfl, bg536, V536⟩ := q536
        show Wp pG e below _ T536 (mkF m 171 _ [(.ref b536), (.ref a534), (.ref a534)])
        have c538 := (X534.keep K536)
        have c539 := ((show Fld Z h534 a534 "java/lang/String" "value" "[B" .null from D534 (Or.inr (wd hw 8 rfl)) (ty := (.array .byte)) (by decide)).keep K536 nin0)
        have c540 := ((show Fld Z h534 a534 "java/lang/String" "coder" "B" (.int (0 : Int32)) from D534 (Or.inr (wd hw 9 rfl)) (ty := .byte) (by decide)).keep K536 nin0)
        have c542 := (Safe.keep K536 sf0 (A534.ch rfl).1 s534)
        refine f_callI A536 (a := a534) at_171 (pc' := 174) rfl rfl (wd hw 61 rfl) (wd hw 62 rfl) (wd hw 63 rfl) (by decide) pd17 [(.ref b536)] [(.ref a534)] rfl rfl rfl 1 (Nat.le_of_eq rfl) (payNew (W := 1) A536 hw (wd hw 6 rfl) (cs := [d0, d1, d2, d3]) 4 z534 c538 c539 c540 V536 O2 P5 rfl rfl (by decide) (by decide) (lc (lat_of rd0) (lc (lat_of rd1) (lc (lat_of rd2) (lc (lat_of rd3) ln)))) (by decide) (by decide)) (kc := 1) (ks := 4) (by decide) (by decide) (allS z534 all0) (fun _ => (sfS c542 sf0)) fun v541 T541 h541 L541 A541 K541 q541 => ?_
        have Q543 : Keep h0 h541 [] := Q537.trans K541 (allS (Or.inr y534) all0)
        obtain ⟨rfl, t541, tz541, tg541, tn541, G541⟩ := q541
        show Wp pG e below _ T541 (mkF m 174 _ [(.ref a534)])
        refine f_astore A541 at_174 (pc' := 176) rfl rfl (L' := #[.val (.int sel), .val (.int pos), .val (.int ch), .val (.long bytes), .second, .val (.int (0 : Int32)), .val (.int (2 : Int32)), .val (.ref w425), .val (.ref aA), .val (.int (5 : Int32)), .val (.ref a534), .unset, .unset, .unset, .unset]) rfl ?_
        refine f_aload A541 at_176 (pc' := 178) rfl rfl rfl ?_
        refine f_callS A541 at_178 (pc' := 181) rfl (wd hw 81 rfl) (wd hw 82 rfl) (wd hw 16 rfl) (wd hw 83 rfl) (by decide) pd18 [(.ref a534)] [] rfl rfl rfl 0 (Nat.le_of_eq rfl) (CN.pay (W := 0) A541 (m_fk l Z a0 hw aA aD aM aL vv a534 t541 [d0, d1, d2, d3] (vOf aA aD aM aL [d0, d1, d2, d3]) zc O2 P5 h541 n0 A541.old hV G541 rfl) (wd hw 83 rfl) (wd hw 16 rfl) (by decide) (by decide)) (kc := 1) (ks := 4) (by decide) (by decide) all0 (fun _ => sf0) fun v544 T544 h544 L544 A544 K544 q544 => ?_
        have Q545 : Keep h0 h544 [] := Q543.trans K544 all0
        obtain rfl := q544
        show Wp pG e below _ T544 (mkF m 181 _ [(vOf aA aD aM aL [d0, d1, d2, d3])])
        refine f_aload A544 at_181 (pc' := 183) rfl rfl rfl ?_
        have c546 := (G541.keep K544 nin0 nin0)
        refine f_callSW A544 at_183 (pc' := 186) rfl (wd hw 125 rfl) (wd hw 126 rfl) (wd hw 2 rfl) (wd hw 127 rfl) (by decide) pd18 [(.ref a534)] [(vOf aA aD aM aL [d0, d1, d2, d3])] rfl rfl rfl 1 (by show Value.category (vOf aA aD aM aL [d0, d1, d2, d3]) + 0 ≤ 1; rw [cat_ref (vOf_ref _ _ _ _ _)]; exact Nat.le_refl _) (CW.pay (W := 1) A544 hEL (m_ref l Z a0 hw aA aD aM aL vv a534 t541 [d0, d1, d2, d3] zc O2 P5 h544 n0 A544.old hEL hV c546) (wd hw 127 rfl) (wd hw 2 rfl) (by decide) (by decide) (fun _ q => nomatch q)) (kc := 8) (ks := 88) (by decide) (by decide) all0 fun v547 vm547 T547 h547 L547 A547 K547 C547 q547 => ?_
        have Q548 : Keep h0 h547 [] := Q545.trans K547 all0
        obtain rfl := q547
        show Wp pG e below _ T547 (mkF m 186 _ [(vOf aA aD aM aL [d0, d1, d2, d3]), (vOf aA aD aM aL [d0, d1, d2, d3])])
        refine f_acmp A547 (vOf_ref _ _ _ _ _) (vOf_ref _ _ _ _ _) at_186 true (decide_eq_true rfl) (by decide) (pc' := 189) (by decide) ?_
        refine f_iconst A547 at_189 (pc' := 190) rfl 1 rfl ?_
        refine f_goto A547 at_190 (pc' := 194) (by decide) (by decide) ?_
        exact f_retBW A547 hEL hlk hret at_194 (by decide) (1 : Int32) (by decide) (by decide) (by decide) Q548 rfl
      · refine f_iload A428 at_33 (pc' := 35) rfl rfl ?_
        refine f_ifY A428 at_35 ((if0 _ _).trans (feq (by decide : ¬ (2 : Int32) = (0 : Int32))).2) (pc' := 66) (by decide) (by decide) ?_
        refine f_iload A428 at_66 (pc' := 68) rfl rfl ?_
        refine f_iconst A428 at_68 (pc' := 69) rfl 1 rfl ?_
        refine f_icY A428 at_69 (feq (by decide : ¬ (2 : Int32) = (1 : Int32))).2 (pc' := 153) (by decide) (by decide) ?_
        refine f_iload A428 at_153 (pc' := 155) rfl rfl ?_
        refine f_iconst A428 at_155 (pc' := 156) rfl 2 rfl ?_
        refine f_icN A428 at_156 (teq (by decide : (2 : Int32) = (2 : Int32))).2 (pc' := 159) rfl ?_
        refine f_new A428 at_159 (pc' := 162) rfl (wd hw 31 rfl) (wd hw 6 rfl) (wd hw 5 rfl) (by decide) (by decide) fun a549 T549 h549 g549 A549 E549 X549 D549 => ?_
        have z549 : n0 ≤ a549 := Nat.le_trans A428.sz (Nat.le_of_eq g549.symm)
        have y549 : h0.size ≤ a549 := Nat.le_trans Q426.1 (Nat.le_of_eq g549.symm)
        have Q550 : Keep h0 h549 [] := Q426.ext E549
        have s549 := Safe.ext E549 (A428.ch rfl).1 (Safe.new (Nat.le_of_eq g549.symm))
        refine f_dup A549 at_162 (pc' := 163) rfl rfl ?_
        refine f_lloadN A549 at_163 (pc' := 164) rfl rfl ?_
        refine f_iloadN A549 at_164 (pc' := 165) rfl rfl ?_
        refine f_bipush A549 at_165 (pc' := 167) rfl 7 rfl ?_
        refine f_iand A549 at_167 (pc' := 168) rfl (5 : Int32) hn8 ?_
        refine f_callS A549 at_168 (pc' := 171) rfl (wd hw 118 rfl) (wd hw 119 rfl) (wd hw 2 rfl) (wd hw 120 rfl) (by decide) pd19 [(.long bytes), (.int (5 : Int32))] [(.ref a549), (.ref a549)] rfl rfl rfl 2 (Nat.le_of_eq rfl) (CN.pay (W := 2) A549 (m_dc5 l Z a0 hw bytes d0 d1 d2 d3 d4 d5 d6 h549 n0 A549.old hd0 rd0 hd1 rd1 hd2 rd2 hd3 rd3 hd4 rd4 hd5 rd5 hd6 rd6) (wd hw 120 rfl) (wd hw 2 rfl) (by decide) (by decide)) (kc := 1) (ks := 5) (by decide) (by decide) all0 (fun _ => sf0) fun v551 T551 h551 L551 A551 K551 q551 => ?_
        have Q552 : Keep h0 h551 [] := Q550.trans K551 all0
        obtain ⟨b551, kA551, rfl, bg551, V551⟩ := q551
        show Wp pG e below _ T551 (mkF m 171 _ [(.ref b551), (.ref a549), (.ref a549)])
        have c553 := (X549.keep K551)
        have c554 := ((show Fld Z h549 a549 "java/lang/String" "value" "[B" .null from D549 (Or.inr (wd hw 8 rfl)) (ty := (.array .byte)) (by decide)).keep K551 nin0)
        have c555 := ((show Fld Z h549 a549 "java/lang/String" "coder" "B" (.int (0 : Int32)) from D549 (Or.inr (wd hw 9 rfl)) (ty := .byte) (by decide)).keep K551 nin0)
        have c557 := (Safe.keep K551 sf0 (A549.ch rfl).1 s549)
        refine f_callI A551 (a := a549) at_171 (pc' := 174) rfl rfl (wd hw 61 rfl) (wd hw 62 rfl) (wd hw 63 rfl) (by decide) pd17 [(.ref b551)] [(.ref a549)] rfl rfl rfl 1 (Nat.le_of_eq rfl) (payNew (W := 1) A551 hw (wd hw 6 rfl) (cs := [d0, d1, d2, d3, d4]) 5 z549 c553 c554 c555 V551 O2 P5 rfl rfl (by decide) (by decide) (lc (lat_of rd0) (lc (lat_of rd1) (lc (lat_of rd2) (lc (lat_of rd3) (lc (lat_of rd4) ln))))) (by decide) (by decide)) (kc := 1) (ks := 5) (by decide) (by decide) (allS z549 all0) (fun _ => (sfS c557 sf0)) fun v556 T556 h556 L556 A556 K556 q556 => ?_
        have Q558 : Keep h0 h556 [] := Q552.trans K556 (allS (Or.inr y549) all0)
        obtain ⟨rfl, t556, tz556, tg556, tn556, G556⟩ := q556
        show Wp pG e below _ T556 (mkF m 174 _ [(.ref a549)])
        refine f_astore A556 at_174 (pc' := 176) rfl rfl (L' := #[.val (.int sel), .val (.int pos), .val (.int ch), .val (.long bytes), .second, .val (.int (0 : Int32)), .val (.int (2 : Int32)), .val (.ref w425), .val (.ref aA), .val (.int (5 : Int32)), .val (.ref a549), .unset, .unset, .unset, .unset]) rfl ?_
        refine f_aload A556 at_176 (pc' := 178) rfl rfl rfl ?_
        refine f_callS A556 at_178 (pc' := 181) rfl (wd hw 81 rfl) (wd hw 82 rfl) (wd hw 16 rfl) (wd hw 83 rfl) (by decide) pd18 [(.ref a549)] [] rfl rfl rfl 0 (Nat.le_of_eq rfl) (CN.pay (W := 0) A556 (m_fk l Z a0 hw aA aD aM aL vv a549 t556 [d0, d1, d2, d3, d4] (vOf aA aD aM aL [d0, d1, d2, d3, d4]) zc O2 P5 h556 n0 A556.old hV G556 rfl) (wd hw 83 rfl) (wd hw 16 rfl) (by decide) (by decide)) (kc := 1) (ks := 4) (by decide) (by decide) all0 (fun _ => sf0) fun v559 T559 h559 L559 A559 K559 q559 => ?_
        have Q560 : Keep h0 h559 [] := Q558.trans K559 all0
        obtain rfl := q559
        show Wp pG e below _ T559 (mkF m 181 _ [(vOf aA aD aM aL [d0, d1, d2, d3, d4])])
        refine f_aload A559 at_181 (pc' := 183) rfl rfl rfl ?_
        have c561 := (G556.keep K559 nin0 nin0)
        refine f_callSW A559 at_183 (pc' := 186) rfl (wd hw 125 rfl) (wd hw 126 rfl) (wd hw 2 rfl) (wd hw 127 rfl) (by decide) pd18 [(.ref a549)] [(vOf aA aD aM aL [d0, d1, d2, d3, d4])] rfl rfl rfl 1 (by show Value.category (vOf aA aD aM aL [d0, d1, d2, d3, d4]) + 0 ≤ 1; rw [cat_ref (vOf_ref _ _ _ _ _)]; exact Nat.le_refl _) (CW.pay (W := 1) A559 hEL (m_ref l Z a0 hw aA aD aM aL vv a549 t556 [d0, d1, d2, d3, d4] zc O2 P5 h559 n0 A559.old hEL hV c561) (wd hw 127 rfl) (wd hw 2 rfl) (by decide) (by decide) (fun _ q => nomatch q)) (kc := 8) (ks := 88) (by decide) (by decide) all0 fun v562 vm562 T562 h562 L562 A562 K562 C562 q562 => ?_
        have Q563 : Keep h0 h562 [] := Q560.trans K562 all0
        obtain rfl := q562
        show Wp pG e below _ T562 (mkF m 186 _ [(vOf aA aD aM aL [d0, d1, d2, d3, d4]), (vOf aA aD aM aL [d0, d1, d2, d3, d4])])
        refine f_acmp A562 (vOf_ref _ _ _ _ _) (vOf_ref _ _ _ _ _) at_186 true (decide_eq_true rfl) (by decide) (pc' := 189) (by decide) ?_
        refine f_iconst A562 at_189 (pc' := 190) rfl 1 rfl ?_
        refine f_goto A562 at_190 (pc' := 194) (by decide) (by decide) ?_
        exact f_retBW A562 hEL hlk hret at_194 (by decide) (1 : Int32) (by decide) (by decide) (by decide) Q563 rfl
      · refine f_iload A428 at_33 (pc' := 35) rfl rfl ?_
        refine f_ifY A428 at_35 ((if0 _ _).trans (feq (by decide : ¬ (2 : Int32) = (0 : Int32))).2) (pc' := 66) (by decide) (by decide) ?_
        refine f_iload A428 at_66 (pc' := 68) rfl rfl ?_
        refine f_iconst A428 at_68 (pc' := 69) rfl 1 rfl ?_
        refine f_icY A428 at_69 (feq (by decide : ¬ (2 : Int32) = (1 : Int32))).2 (pc' := 153) (by decide) (by decide) ?_
        refine f_iload A428 at_153 (pc' := 155) rfl rfl ?_
        refine f_iconst A428 at_155 (pc' := 156) rfl 2 rfl ?_
        refine f_icN A428 at_156 (teq (by decide : (2 : Int32) = (2 : Int32))).2 (pc' := 159) rfl ?_
        refine f_new A428 at_159 (pc' := 162) rfl (wd hw 31 rfl) (wd hw 6 rfl) (wd hw 5 rfl) (by decide) (by decide) fun a564 T564 h564 g564 A564 E564 X564 D564 => ?_
        have z564 : n0 ≤ a564 := Nat.le_trans A428.sz (Nat.le_of_eq g564.symm)
        have y564 : h0.size ≤ a564 := Nat.le_trans Q426.1 (Nat.le_of_eq g564.symm)
        have Q565 : Keep h0 h564 [] := Q426.ext E564
        have s564 := Safe.ext E564 (A428.ch rfl).1 (Safe.new (Nat.le_of_eq g564.symm))
        refine f_dup A564 at_162 (pc' := 163) rfl rfl ?_
        refine f_lloadN A564 at_163 (pc' := 164) rfl rfl ?_
        refine f_iloadN A564 at_164 (pc' := 165) rfl rfl ?_
        refine f_bipush A564 at_165 (pc' := 167) rfl 7 rfl ?_
        refine f_iand A564 at_167 (pc' := 168) rfl (6 : Int32) hn8 ?_
        refine f_callS A564 at_168 (pc' := 171) rfl (wd hw 118 rfl) (wd hw 119 rfl) (wd hw 2 rfl) (wd hw 120 rfl) (by decide) pd19 [(.long bytes), (.int (6 : Int32))] [(.ref a564), (.ref a564)] rfl rfl rfl 2 (Nat.le_of_eq rfl) (CN.pay (W := 2) A564 (m_dc6 l Z a0 hw bytes d0 d1 d2 d3 d4 d5 d6 h564 n0 A564.old hd0 rd0 hd1 rd1 hd2 rd2 hd3 rd3 hd4 rd4 hd5 rd5 hd6 rd6) (wd hw 120 rfl) (wd hw 2 rfl) (by decide) (by decide)) (kc := 1) (ks := 6) (by decide) (by decide) all0 (fun _ => sf0) fun v566 T566 h566 L566 A566 K566 q566 => ?_
        have Q567 : Keep h0 h566 [] := Q565.trans K566 all0
        obtain ⟨b566, kA566, rfl, bg566, V566⟩ := q566
        show Wp pG e below _ T566 (mkF m 171 _ [(.ref b566), (.ref a564), (.ref a564)])
        have c568 := (X564.keep K566)
        have c569 := ((show Fld Z h564 a564 "java/lang/String" "value" "[B" .null from D564 (Or.inr (wd hw 8 rfl)) (ty := (.array .byte)) (by decide)).keep K566 nin0)
        have c570 := ((show Fld Z h564 a564 "java/lang/String" "coder" "B" (.int (0 : Int32)) from D564 (Or.inr (wd hw 9 rfl)) (ty := .byte) (by decide)).keep K566 nin0)
        have c572 := (Safe.keep K566 sf0 (A564.ch rfl).1 s564)
        refine f_callI A566 (a := a564) at_171 (pc' := 174) rfl rfl (wd hw 61 rfl) (wd hw 62 rfl) (wd hw 63 rfl) (by decide) pd17 [(.ref b566)] [(.ref a564)] rfl rfl rfl 1 (Nat.le_of_eq rfl) (payNew (W := 1) A566 hw (wd hw 6 rfl) (cs := [d0, d1, d2, d3, d4, d5]) 6 z564 c568 c569 c570 V566 O2 P5 rfl rfl (by decide) (by decide) (lc (lat_of rd0) (lc (lat_of rd1) (lc (lat_of rd2) (lc (lat_of rd3) (lc (lat_of rd4) (lc (lat_of rd5) ln)))))) (by decide) (by decide)) (kc := 1) (ks := 6) (by decide) (by decide) (allS z564 all0) (fun _ => (sfS c572 sf0)) fun v571 T571 h571 L571 A571 K571 q571 => ?_
        have Q573 : Keep h0 h571 [] := Q567.trans K571 (allS (Or.inr y564) all0)
        obtain ⟨rfl, t571, tz571, tg571, tn571, G571⟩ := q571
        show Wp pG e below _ T571 (mkF m 174 _ [(.ref a564)])
        refine f_astore A571 at_174 (pc' := 176) rfl rfl (L' := #[.val (.int sel), .val (.int pos), .val (.int ch), .val (.long bytes), .second, .val (.int (0 : Int32)), .val (.int (2 : Int32)), .val (.ref w425), .val (.ref aA), .val (.int (5 : Int32)), .val (.ref a564), .unset, .unset, .unset, .unset]) rfl ?_
        refine f_aload A571 at_176 (pc' := 178) rfl rfl rfl ?_
        refine f_callS A571 at_178 (pc' := 181) rfl (wd hw 81 rfl) (wd hw 82 rfl) (wd hw 16 rfl) (wd hw 83 rfl) (by decide) pd18 [(.ref a564)] [] rfl rfl rfl 0 (Nat.le_of_eq rfl) (CN.pay (W := 0) A571 (m_fk l Z a0 hw aA aD aM aL vv a564 t571 [d0, d1, d2, d3, d4, d5] (vOf aA aD aM aL [d0, d1, d2, d3, d4, d5]) zc O2 P5 h571 n0 A571.old hV G571 rfl) (wd hw 83 rfl) (wd hw 16 rfl) (by decide) (by decide)) (kc := 1) (ks := 4) (by decide) (by decide) all0 (fun _ => sf0) fun v574 T574 h574 L574 A574 K574 q574 => ?_
        have Q575 : Keep h0 h574 [] := Q573.trans K574 all0
        obtain rfl := q574
        show Wp pG e below _ T574 (mkF m 181 _ [(vOf aA aD aM aL [d0, d1, d2, d3, d4, d5])])
        refine f_aload A574 at_181 (pc' := 183) rfl rfl rfl ?_
        have c576 := (G571.keep K574 nin0 nin0)
        refine f_callSW A574 at_183 (pc' := 186) rfl (wd hw 125 rfl) (wd hw 126 rfl) (wd hw 2 rfl) (wd hw 127 rfl) (by decide) pd18 [(.ref a564)] [(vOf aA aD aM aL [d0, d1, d2, d3, d4, d5])] rfl rfl rfl 1 (by show Value.category (vOf aA aD aM aL [d0, d1, d2, d3, d4, d5]) + 0 ≤ 1; rw [cat_ref (vOf_ref _ _ _ _ _)]; exact Nat.le_refl _) (CW.pay (W := 1) A574 hEL (m_ref l Z a0 hw aA aD aM aL vv a564 t571 [d0, d1, d2, d3, d4, d5] zc O2 P5 h574 n0 A574.old hEL hV c576) (wd hw 127 rfl) (wd hw 2 rfl) (by decide) (by decide) (fun _ q => nomatch q)) (kc := 8) (ks := 88) (by decide) (by decide) all0 fun v577 vm577 T577 h577 L577 A577 K577 C577 q577 => ?_
        have Q578 : Keep h0 h577 [] := Q575.trans K577 all0
        obtain rfl := q577
        show Wp pG e below _ T577 (mkF m 186 _ [(vOf aA aD aM aL [d0, d1, d2, d3, d4, d5]), (vOf aA aD aM aL [d0, d1, d2, d3, d4, d5])])
        refine f_acmp A577 (vOf_ref _ _ _ _ _) (vOf_ref _ _ _ _ _) at_186 true (decide_eq_true rfl) (by decide) (pc' := 189) (by decide) ?_
        refine f_iconst A577 at_189 (pc' := 190) rfl 1 rfl ?_
        refine f_goto A577 at_190 (pc' := 194) (by decide) (by decide) ?_
        exact f_retBW A577 hEL hlk hret at_194 (by decide) (1 : Int32) (by decide) (by decide) (by decide) Q578 rfl
      · refine f_iload A428 at_33 (pc' := 35) rfl rfl ?_
        refine f_ifY A428 at_35 ((if0 _ _).trans (feq (by decide : ¬ (2 : Int32) = (0 : Int32))).2) (pc' := 66) (by decide) (by decide) ?_
        refine f_iload A428 at_66 (pc' := 68) rfl rfl ?_
        refine f_iconst A428 at_68 (pc' := 69) rfl 1 rfl ?_
        refine f_icY A428 at_69 (feq (by decide : ¬ (2 : Int32) = (1 : Int32))).2 (pc' := 153) (by decide) (by decide) ?_
        refine f_iload A428 at_153 (pc' := 155) rfl rfl ?_
        refine f_iconst A428 at_155 (pc' := 156) rfl 2 rfl ?_
        refine f_icN A428 at_156 (teq (by decide : (2 : Int32) = (2 : Int32))).2 (pc' := 159) rfl ?_
        refine f_new A428 at_159 (pc' := 162) rfl (wd hw 31 rfl) (wd hw 6 rfl) (wd hw 5 rfl) (by decide) (by decide) fun a579 T579 h579 g579 A579 E579 X579 D579 => ?_
        have z579 : n0 ≤ a579 := Nat.le_trans A428.sz (Nat.le_of_eq g579.symm)
        have y579 : h0.size ≤ a579 := Nat.le_trans Q426.1 (Nat.le_of_eq g579.symm)
        have Q580 : Keep h0 h579 [] := Q426.ext E579
        have s579 := Safe.ext E579 (A428.ch rfl).1 (Safe.new (Nat.le_of_eq g579.symm))
        refine f_dup A579 at_162 (pc' := 163) rfl rfl ?_
        refine f_lloadN A579 at_163 (pc' := 164) rfl rfl ?_
        refine f_iloadN A579 at_164 (pc' := 165) rfl rfl ?_
        refine f_bipush A579 at_165 (pc' := 167) rfl 7 rfl ?_
        refine f_iand A579 at_167 (pc' := 168) rfl (7 : Int32) hn8 ?_
        refine f_callS A579 at_168 (pc' := 171) rfl (wd hw 118 rfl) (wd hw 119 rfl) (wd hw 2 rfl) (wd hw 120 rfl) (by decide) pd19 [(.long bytes), (.int (7 : Int32))] [(.ref a579), (.ref a579)] rfl rfl rfl 2 (Nat.le_of_eq rfl) (CN.pay (W := 2) A579 (m_dc7 l Z a0 hw bytes d0 d1 d2 d3 d4 d5 d6 h579 n0 A579.old hd0 rd0 hd1 rd1 hd2 rd2 hd3 rd3 hd4 rd4 hd5 rd5 hd6 rd6) (wd hw 120 rfl) (wd hw 2 rfl) (by decide) (by decide)) (kc := 1) (ks := 7) (by decide) (by decide) all0 (fun _ => sf0) fun v581 T581 h581 L581 A581 K581 q581 => ?_
        have Q582 : Keep h0 h581 [] := Q580.trans K581 all0
        obtain ⟨b581, kA581, rfl, bg581, V581⟩ := q581
        show Wp pG e below _ T581 (mkF m 171 _ [(.ref b581), (.ref a579), (.ref a579)])
        have c583 := (X579.keep K581)
        have c584 := ((show Fld Z h579 a579 "java/lang/String" "value" "[B" .null from D579 (Or.inr (wd hw 8 rfl)) (ty := (.array .byte)) (by decide)).keep K581 nin0)
        have c585 := ((show Fld Z h579 a579 "java/lang/String" "coder" "B" (.int (0 : Int32)) from D579 (Or.inr (wd hw 9 rfl)) (ty := .byte) (by decide)).keep K581 nin0)
        have c587 := (Safe.keep K581 sf0 (A579.ch rfl).1 s579)
        refine f_callI A581 (a := a579) at_171 (pc' := 174) rfl rfl (wd hw 61 rfl) (wd hw 62 rfl) (wd hw 63 rfl) (by decide) pd17 [(.ref b581)] [(.ref a579)] rfl rfl rfl 1 (Nat.le_of_eq rfl) (payNew (W := 1) A581 hw (wd hw 6 rfl) (cs := [d0, d1, d2, d3, d4, d5, d6]) 7 z579 c583 c584 c585 V581 O2 P5 rfl rfl (by decide) (by decide) (lc (lat_of rd0) (lc (lat_of rd1) (lc (lat_of rd2) (lc (lat_of rd3) (lc (lat_of rd4) (lc (lat_of rd5) (lc (lat_of rd6) ln))))))) (by decide) (by decide)) (kc := 1) (ks := 7) (by decide) (by decide) (allS z579 all0) (fun _ => (sfS c587 sf0)) fun v586 T586 h586 L586 A586 K586 q586 => ?_
        have Q588 : Keep h0 h586 [] := Q582.trans K586 (allS (Or.inr y579) all0)
        obtain ⟨rfl, t586, tz586, tg586, tn586, G586⟩ := q586
        show Wp pG e below _ T586 (mkF m 174 _ [(.ref a579)])
        refine f_astore A586 at_174 (pc' := 176) rfl rfl (L' := #[.val (.int sel), .val (.int pos), .val (.int ch), .val (.long bytes), .second, .val (.int (0 : Int32)), .val (.int (2 : Int32)), .val (.ref w425), .val (.ref aA), .val (.int (5 : Int32)), .val (.ref a579), .unset, .unset, .unset, .unset]) rfl ?_
        refine f_aload A586 at_176 (pc' := 178) rfl rfl rfl ?_
        refine f_callS A586 at_178 (pc' := 181) rfl (wd hw 81 rfl) (wd hw 82 rfl) (wd hw 16 rfl) (wd hw 83 rfl) (by decide) pd18 [(.ref a579)] [] rfl rfl rfl 0 (Nat.le_of_eq rfl) (CN.pay (W := 0) A586 (m_fk l Z a0 hw aA aD aM aL vv a579 t586 [d0, d1, d2, d3, d4, d5, d6] (vOf aA aD aM aL [d0, d1, d2, d3, d4, d5, d6]) zc O2 P5 h586 n0 A586.old hV G586 rfl) (wd hw 83 rfl) (wd hw 16 rfl) (by decide) (by decide)) (kc := 1) (ks := 4) (by decide) (by decide) all0 (fun _ => sf0) fun v589 T589 h589 L589 A589 K589 q589 => ?_
        have Q590 : Keep h0 h589 [] := Q588.trans K589 all0
        obtain rfl := q589
        show Wp pG e below _ T589 (mkF m 181 _ [(vOf aA aD aM aL [d0, d1, d2, d3, d4, d5, d6])])
        refine f_aload A589 at_181 (pc' := 183) rfl rfl rfl ?_
        have c591 := (G586.keep K589 nin0 nin0)
        refine f_callSW A589 at_183 (pc' := 186) rfl (wd hw 125 rfl) (wd hw 126 rfl) (wd hw 2 rfl) (wd hw 127 rfl) (by decide) pd18 [(.ref a579)] [(vOf aA aD aM aL [d0, d1, d2, d3, d4, d5, d6])] rfl rfl rfl 1 (by show Value.category (vOf aA aD aM aL [d0, d1, d2, d3, d4, d5, d6]) + 0 ≤ 1; rw [cat_ref (vOf_ref _ _ _ _ _)]; exact Nat.le_refl _) (CW.pay (W := 1) A589 hEL (m_ref l Z a0 hw aA aD aM aL vv a579 t586 [d0, d1, d2, d3, d4, d5, d6] zc O2 P5 h589 n0 A589.old hEL hV c591) (wd hw 127 rfl) (wd hw 2 rfl) (by decide) (by decide) (fun _ q => nomatch q)) (kc := 8) (ks := 88) (by decide) (by decide) all0 fun v592 vm592 T592 h592 L592 A592 K592 C592 q592 => ?_
        have Q593 : Keep h0 h592 [] := Q590.trans K592 all0
        obtain rfl := q592
        show Wp pG e below _ T592 (mkF m 186 _ [(vOf aA aD aM aL [d0, d1, d2, d3, d4, d5, d6]), (vOf aA aD aM aL [d0, d1, d2, d3, d4, d5, d6])])
        refine f_acmp A592 (vOf_ref _ _ _ _ _) (vOf_ref _ _ _ _ _) at_186 true (decide_eq_true rfl) (by decide) (pc' := 189) (by decide) ?_
        refine f_iconst A592 at_189 (pc' := 190) rfl 1 rfl ?_
        refine f_goto A592 at_190 (pc' := 194) (by decide) (by decide) ?_
        exact f_retBW A592 hEL hlk hret at_194 (by decide) (1 : Int32) (by decide) (by decide) (by decide) Q593 rfl
    · refine f_iload A428 at_33 (pc' := 35) rfl rfl ?_
      refine f_ifY A428 at_35 ((if0 _ _).trans (feq (by decide : ¬ (3 : Int32) = (0 : Int32))).2) (pc' := 66) (by decide) (by decide) ?_
      refine f_iload A428 at_66 (pc' := 68) rfl rfl ?_
      refine f_iconst A428 at_68 (pc' := 69) rfl 1 rfl ?_
      refine f_icY A428 at_69 (feq (by decide : ¬ (3 : Int32) = (1 : Int32))).2 (pc' := 153) (by decide) (by decide) ?_
      refine f_iload A428 at_153 (pc' := 155) rfl rfl ?_
      refine f_iconst A428 at_155 (pc' := 156) rfl 2 rfl ?_
      refine f_icY A428 at_156 (feq (by decide : ¬ (3 : Int32) = (2 : Int32))).2 (pc' := 195) (by decide) (by decide) ?_
      refine f_iloadN A428 at_195 (pc' := 196) rfl rfl ?_
      refine f_iconst A428 at_196 (pc' := 197) rfl 1 rfl ?_
      refine f_iand A428 at_197 (pc' := 198) rfl (ch &&& (1 : Int32)) rfl ?_
      by_cases qb : ch &&& 1 = 0
      · refine f_ifN A428 at_198 ((if0 _ _).trans (teq qb).2) (pc' := 201) rfl ?_
        refine f_aconst_null A428 at_201 (pc' := 202) rfl ?_
        refine f_callS A428 at_202 (pc' := 205) rfl (wd hw 81 rfl) (wd hw 82 rfl) (wd hw 16 rfl) (wd hw 83 rfl) (by decide) pd18 [.null] [] rfl rfl rfl 0 (Nat.le_of_eq rfl) (CN.pay (W := 0) A428 (m_fkN l Z a0 hw aA aD aM aL vv h425 n0 A428.old hV) (wd hw 83 rfl) (wd hw 16 rfl) (by decide) (by decide)) (kc := 1) (ks := 4) (by decide) (by decide) all0 (fun _ => sf0) fun v594 T594 h594 L594 A594 K594 q594 => ?_
        have Q595 : Keep h0 h594 [] := Q426.trans K594 all0
        obtain rfl := q594
        show Wp pG e below _ T594 (mkF m 205 _ [.null])
        refine f_nonN A594 at_205 (pc' := 208) rfl ?_
        refine f_iconst A594 at_208 (pc' := 209) rfl 1 rfl ?_
        refine f_goto A594 at_209 (pc' := 213) (by decide) (by decide) ?_
        exact f_retBW A594 hEL hlk hret at_213 (by decide) (1 : Int32) (by decide) (by decide) (by decide) Q595 rfl
      · refine f_ifY A428 at_198 ((if0 _ _).trans (feq qb).2) (pc' := 214) (by decide) (by decide) ?_
        refine f_aload A428 at_214 (pc' := 216) rfl rfl rfl ?_
        refine f_iload A428 at_216 (pc' := 218) rfl rfl ?_
        refine f_iconst A428 at_218 (pc' := 219) rfl 1 rfl ?_
        refine f_iadd A428 at_219 (pc' := 220) rfl (6 : Int32) (by decide) ?_
        refine f_callS A428 at_220 (pc' := 223) rfl (wd hw 32 rfl) (wd hw 33 rfl) (wd hw 2 rfl) (wd hw 34 rfl) (by decide) pd16 [(.ref w425), (.int (6 : Int32))] [] rfl rfl rfl 0 (Nat.le_of_eq rfl) (CN.pay (W := 0) A428 (m_ck01 l Z a0 hw w425 u425 zc O2 P5 fm O4 rG3 h425 n0 A428.old G425) (wd hw 34 rfl) (wd hw 2 rfl) (by decide) (by decide)) (kc := 1) (ks := 6) (by decide) (by decide) all0 (fun _ => sf0) fun v596 T596 h596 L596 A596 K596 q596 => ?_
        have Q597 : Keep h0 h596 [] := Q426.trans K596 all0
        obtain ⟨b596, kA596, rfl, bg596, V596⟩ := q596
        show Wp pG e below _ T596 (mkF m 223 _ [(.ref b596)])
        refine f_astore A596 at_223 (pc' := 225) rfl rfl (L' := #[.val (.int sel), .val (.int pos), .val (.int ch), .val (.long bytes), .second, .val (.int (0 : Int32)), .val (.int (3 : Int32)), .val (.ref w425), .val (.ref aA), .val (.int (5 : Int32)), .val (.ref b596), .unset, .unset, .unset, .unset]) rfl ?_
        refine f_aload A596 at_225 (pc' := 227) rfl rfl rfl ?_
        refine f_iload A596 at_227 (pc' := 229) rfl rfl ?_
        refine f_iloadN A596 at_229 (pc' := 230) rfl rfl ?_
        refine f_iconst A596 at_230 (pc' := 231) rfl 1 rfl ?_
        refine f_iushr A596 at_231 (pc' := 232) rfl ((ch.toUInt32 >>> ((1 : Int32) &&& 31).toUInt32).toInt32) rfl ?_
        refine f_i2c A596 at_232 (pc' := 233) rfl c3 hc3 ?_
        refine f_castore A596 at_233 (pc' := 234) rfl V596 ⟨by decide, by decide⟩ 5 (by decide) (Nat.le_of_ble_eq_true rfl) c3 (nar_id rc3) (vs' := [(.int (97 : Int32)), (.int (108 : Int32)), (.int (108 : Int32)), (.int (111 : Int32)), (.int (119 : Int32)), (.int c3)]) rfl (Nat.le_trans A428.sz bg596) (fun _ => (Safe.arv A596.hZ.alike V596 (by decide))) fun T598 h598 A598 K598 V598 => ?_
        have Q599 : Keep h0 h598 [] := Q597.trans K598 (allS (Or.inr (Nat.le_trans Q426.1 bg596)) all0)
        by_cases q8 : (255 : Int32) < c3
        · refine f_new A598 at_234 (pc' := 237) rfl (wd hw 31 rfl) (wd hw 6 rfl) (wd hw 5 rfl) (by decide) (by decide) fun a600 T600 h600 g600 A600 E600 X600 D600 => ?_
          have z600 : n0 ≤ a600 := Nat.le_trans A598.sz (Nat.le_of_eq g600.symm)
          have y600 : h0.size ≤ a600 := Nat.le_trans Q599.1 (Nat.le_of_eq g600.symm)
          have Q601 : Keep h0 h600 [] := Q599.ext E600
          have s600 := Safe.ext E600 (A598.ch rfl).1 (Safe.new (Nat.le_of_eq g600.symm))
          refine f_dup A600 at_237 (pc' := 238) rfl rfl ?_
          refine f_aload A600 at_238 (pc' := 240) rfl rfl rfl ?_
          have c602 := (V598.ext E600)
          refine f_callI A600 (a := a600) at_240 (pc' := 243) rfl rfl (wd hw 61 rfl) (wd hw 62 rfl) (wd hw 63 rfl) (by decide) pd17 [(.ref b596)] [(.ref a600)] rfl rfl rfl 1 (Nat.le_of_eq rfl) (CN.pay (W := 1) A600 (m_new1W l Z a0 hw a600 b596 kA596 6 [(97 : Int32), (108 : Int32), (108 : Int32), (111 : Int32), (119 : Int32), c3] (.int 0) 5 Oa Oh Ol zc O2 P5 h600 n0 A600.old X600 (show Fld Z h600 a600 "java/lang/String" "value" "[B" .null from D600 (Or.inr (wd hw 8 rfl)) (ty := (.array .byte)) (by decide)) (show Fld Z h600 a600 "java/lang/String" "coder" "B" (.int (0 : Int32)) from D600 (Or.inr (wd hw 9 rfl)) (ty := .byte) (by decide)) z600 c602 rfl (by decide) (by decide) (hpreK (L := [(97 : Int32), (108 : Int32), (108 : Int32), (111 : Int32), (119 : Int32)]) (by decide)) q8 (lc (by decide) (lc (by decide) (lc (by decide) (lc (by decide) (lc (by decide) (lc (c16 rc3) ln))))))) (wd hw 63 rfl) (wd hw 5 rfl) (by decide) (by decide)) (kc := 2) (ks := 108) (by decide) (by decide) (allS z600 all0) (fun _ => (sfS s600 sf0)) fun v603 T603 h603 L603 A603 K603 q603 => ?_
          have Q604 : Keep h0 h603 [] := Q601.trans K603 (allS (Or.inr y600) all0)
          obtain ⟨rfl, t603, tz603, tg603, tn603, G603⟩ := q603
          show Wp pG e below _ T603 (mkF m 243 _ [(.ref a600)])
          refine f_callS A603 at_243 (pc' := 246) rfl (wd hw 81 rfl) (wd hw 82 rfl) (wd hw 16 rfl) (wd hw 83 rfl) (by decide) pd18 [(.ref a600)] [] rfl rfl rfl 0 (Nat.le_of_eq rfl) (CN.pay (W := 0) A603 (m_fk l Z a0 hw aA aD aM aL vv a600 t603 [(97 : Int32), (108 : Int32), (108 : Int32), (111 : Int32), (119 : Int32), c3] .null zc O2 P5 h603 n0 A603.old hV G603 app_no0) (wd hw 83 rfl) (wd hw 16 rfl) (by decide) (by decide)) (kc := 1) (ks := 4) (by decide) (by decide) all0 (fun _ => sf0) fun v605 T605 h605 L605 A605 K605 q605 => ?_
          have Q606 : Keep h0 h605 [] := Q604.trans K605 all0
          obtain rfl := q605
          show Wp pG e below _ T605 (mkF m 246 _ [.null])
          refine f_nonN A605 at_246 (pc' := 249) rfl ?_
          refine f_iconst A605 at_249 (pc' := 250) rfl 1 rfl ?_
          refine f_goto A605 at_250 (pc' := 254) (by decide) (by decide) ?_
          exact f_retBW A605 hEL hlk hret at_254 (by decide) (1 : Int32) (by decide) (by decide) (by decide) Q606 rfl
        · refine f_new A598 at_234 (pc' := 237) rfl (wd hw 31 rfl) (wd hw 6 rfl) (wd hw 5 rfl) (by decide) (by decide) fun a607 T607 h607 g607 A607 E607 X607 D607 => ?_
          have z607 : n0 ≤ a607 := Nat.le_trans A598.sz (Nat.le_of_eq g607.symm)
          have y607 : h0.size ≤ a607 := Nat.le_trans Q599.1 (Nat.le_of_eq g607.symm)
          have Q608 : Keep h0 h607 [] := Q599.ext E607
          have s607 := Safe.ext E607 (A598.ch rfl).1 (Safe.new (Nat.le_of_eq g607.symm))
          refine f_dup A607 at_237 (pc' := 238) rfl rfl ?_
          refine f_aload A607 at_238 (pc' := 240) rfl rfl rfl ?_
          have c609 := (V598.ext E607)
          refine f_callI A607 (a := a607) at_240 (pc' := 243) rfl rfl (wd hw 61 rfl) (wd hw 62 rfl) (wd hw 63 rfl) (by decide) pd17 [(.ref b596)] [(.ref a607)] rfl rfl rfl 1 (Nat.le_of_eq rfl) (payNew (W := 1) A607 hw (wd hw 6 rfl) (cs := [(97 : Int32), (108 : Int32), (108 : Int32), (111 : Int32), (119 : Int32), c3]) 6 z607 X607 (show Fld Z h607 a607 "java/lang/String" "value" "[B" .null from D607 (Or.inr (wd hw 8 rfl)) (ty := (.array .byte)) (by decide)) (show Fld Z h607 a607 "java/lang/String" "coder" "B" (.int (0 : Int32)) from D607 (Or.inr (wd hw 9 rfl)) (ty := .byte) (by decide)) c609 O2 P5 rfl rfl (by decide) (by decide) (lc (by decide) (lc (by decide) (lc (by decide) (lc (by decide) (lc (by decide) (lc (c8 rc3 q8) ln)))))) (by decide) (by decide)) (kc := 1) (ks := 6) (by decide) (by decide) (allS z607 all0) (fun _ => (sfS s607 sf0)) fun v610 T610 h610 L610 A610 K610 q610 => ?_
          have Q611 : Keep h0 h610 [] := Q608.trans K610 (allS (Or.inr y607) all0)
          obtain ⟨rfl, t610, tz610, tg610, tn610, G610⟩ := q610
          show Wp pG e below _ T610 (mkF m 243 _ [(.ref a607)])
          refine f_callS A610 at_243 (pc' := 246) rfl (wd hw 81 rfl) (wd hw 82 rfl) (wd hw 16 rfl) (wd hw 83 rfl) (by decide) pd18 [(.ref a607)] [] rfl rfl rfl 0 (Nat.le_of_eq rfl) (CN.pay (W := 0) A610 (m_fk l Z a0 hw aA aD aM aL vv a607 t610 [(97 : Int32), (108 : Int32), (108 : Int32), (111 : Int32), (119 : Int32), c3] .null zc O2 P5 h610 n0 A610.old hV G610 app_no0) (wd hw 83 rfl) (wd hw 16 rfl) (by decide) (by decide)) (kc := 1) (ks := 4) (by decide) (by decide) all0 (fun _ => sf0) fun v612 T612 h612 L612 A612 K612 q612 => ?_
          have Q613 : Keep h0 h612 [] := Q611.trans K612 all0
          obtain rfl := q612
          show Wp pG e below _ T612 (mkF m 246 _ [.null])
          refine f_nonN A612 at_246 (pc' := 249) rfl ?_
          refine f_iconst A612 at_249 (pc' := 250) rfl 1 rfl ?_
          refine f_goto A612 at_250 (pc' := 254) (by decide) (by decide) ?_
          exact f_retBW A612 hEL hlk hret at_254 (by decide) (1 : Int32) (by decide) (by decide) (by decide) Q613 rfl
  · refine f_iloadN A0 at_0 (pc' := 1) rfl rfl ?_
    refine f_iconst A0 at_1 (pc' := 2) rfl 3 rfl ?_
    refine f_iand A0 at_2 (pc' := 3) rfl (1 : Int32) hk ?_
    refine f_istore A0 at_3 (pc' := 5) rfl (L' := #[.val (.int sel), .val (.int pos), .val (.int ch), .val (.long bytes), .second, .val (.int (1 : Int32)), .unset, .unset, .unset, .unset, .unset, .unset, .unset, .unset, .unset]) rfl ?_
    refine f_iloadN A0 at_5 (pc' := 6) rfl rfl ?_
    refine f_iconst A0 at_6 (pc' := 7) rfl 2 rfl ?_
    refine f_iushr A0 at_7 (pc' := 8) rfl ((sel.toUInt32 >>> ((2 : Int32) &&& 31).toUInt32).toInt32) rfl ?_
    refine f_iconst A0 at_8 (pc' := 9) rfl 3 rfl ?_
    refine f_iand A0 at_9 (pc' := 10) rfl mo hmo ?_
    refine f_istore A0 at_10 (pc' := 12) rfl (L' := #[.val (.int sel), .val (.int pos), .val (.int ch), .val (.long bytes), .second, .val (.int (1 : Int32)), .val (.int mo), .unset, .unset, .unset, .unset, .unset, .unset, .unset, .unset]) rfl ?_
    refine f_iload A0 at_12 (pc' := 14) rfl rfl ?_
    refine f_callSW A0 at_14 (pc' := 17) rfl (wd hw 0 rfl) (wd hw 1 rfl) (wd hw 2 rfl) (wd hw 3 rfl) (by decide) pd14 [(.int (1 : Int32))] [] rfl rfl rfl 0 (Nat.le_of_eq rfl) (CW.pay (W := 0) A0 hEL (m_kw1 l Z a0 hw h0 n0 A0.old hEL) (wd hw 3 rfl) (wd hw 2 rfl) (by decide) (by decide) (fun _ q => nomatch q)) (kc := 2) (ks := 24) (by decide) (by decide) all0 fun v614 vm614 T614 h614 L614 A614 K614 C614 q614 => ?_
    have Q615 : Keep h0 h614 [] := K0.trans K614 all0
    obtain ⟨w614, u614, rfl, G614⟩ := q614
    show Wp pG e below _ T614 (mkF m 17 _ [(.ref w614)])
    refine f_astore A614 at_17 (pc' := 19) rfl rfl (L' := #[.val (.int sel), .val (.int pos), .val (.int ch), .val (.long bytes), .second, .val (.int (1 : Int32)), .val (.int mo), .val (.ref w614), .unset, .unset, .unset, .unset, .unset, .unset, .unset]) rfl ?_
    refine f_iload A614 at_19 (pc' := 21) rfl rfl ?_
    refine f_callS A614 at_21 (pc' := 24) rfl (wd hw 12 rfl) (wd hw 13 rfl) (wd hw 2 rfl) (wd hw 14 rfl) (by decide) pd15 [(.int (1 : Int32))] [] rfl rfl rfl 0 (Nat.le_of_eq rfl) (CN.pay (W := 0) A614 (m_ek1 l Z a0 hw aA aD aM aL vv h614 n0 A614.old hV) (wd hw 14 rfl) (wd hw 2 rfl) (by decide) (by decide)) (kc := 0) (ks := 0) (by decide) (by decide) all0 (fun _ => sf0) fun v616 T616 h616 L616 A616 K616 q616 => ?_
    obtain ⟨rfl, hh616⟩ := q616
    obtain rfl := hh616.symm
    show Wp pG e below _ T616 (mkF m 24 _ [(.ref aD)])
    refine f_astore A616 at_24 (pc' := 26) rfl rfl (L' := #[.val (.int sel), .val (.int pos), .val (.int ch), .val (.long bytes), .second, .val (.int (1 : Int32)), .val (.int mo), .val (.ref w614), .val (.ref aD), .unset, .unset, .unset, .unset, .unset, .unset]) rfl ?_
    refine f_aload A616 at_26 (pc' := 28) rfl rfl rfl ?_
    refine f_callV A616 (a := w614) at_28 (pc' := 31) rfl (wd hw 18 rfl) (wd hw 19 rfl) (nfS A616 (wd hw 21 rfl)) (wd hw 21 rfl) (wd hw 20 rfl) (by decide) G614.exa pd11 [] [] rfl rfl rfl 0 (Nat.le_of_eq rfl) (payLen (W := 0) A616 hw (wd hw 6 rfl) G614 O2 P5 (by decide) (by decide)) (kc := 0) (ks := 0) (by decide) (by decide) all0 (fun _ => sf0) fun v617 T617 h617 L617 A617 K617 q617 => ?_
    obtain ⟨rfl, hh617⟩ := q617
    obtain rfl := hh617.symm
    show Wp pG e below _ T617 (mkF m 31 _ [(.int (4 : Int32))])
    refine f_istore A617 at_31 (pc' := 33) rfl (L' := #[.val (.int sel), .val (.int pos), .val (.int ch), .val (.long bytes), .second, .val (.int (1 : Int32)), .val (.int mo), .val (.ref w614), .val (.ref aD), .val (.int (4 : Int32)), .unset, .unset, .unset, .unset, .unset]) rfl ?_
    rcases hm4 with rfl | rfl | rfl | rfl
    · refine f_iload A617 at_33 (pc' := 35) rfl rfl ?_
      refine f_ifN A617 at_35 ((if0 _ _).trans (teq (by decide : (0 : Int32) = (0 : Int32))).2) (pc' := 38) rfl ?_
      refine f_new A617 at_38 (pc' := 41) rfl (wd hw 31 rfl) (wd hw 6 rfl) (wd hw 5 rfl) (by decide) (by decide) fun a618 T618 h618 g618 A618 E618 X618 D618 => ?_
      have z618 : n0 ≤ a618 := Nat.le_trans A617.sz (Nat.le_of_eq g618.symm)
      have y618 : h0.size ≤ a618 := Nat.le_trans Q615.1 (Nat.le_of_eq g618.symm)
      have Q619 : Keep h0 h618 [] := Q615.ext E618
      have s618 := Safe.ext E618 (A617.ch rfl).1 (Safe.new (Nat.le_of_eq g618.symm))
      refine f_dup A618 at_41 (pc' := 42) rfl rfl ?_
      refine f_aload A618 at_42 (pc' := 44) rfl rfl rfl ?_
      refine f_iload A618 at_44 (pc' := 46) rfl rfl ?_
      have c620 := (G614.ext E618)
      refine f_callS A618 at_46 (pc' := 49) rfl (wd hw 32 rfl) (wd hw 33 rfl) (wd hw 2 rfl) (wd hw 34 rfl) (by decide) pd16 [(.ref w614), (.int (4 : Int32))] [(.ref a618), (.ref a618)] rfl rfl rfl 2 (Nat.le_of_eq rfl) (CN.pay (W := 2) A618 (m_ck10 l Z a0 hw w614 u614 zc O2 P5 fm O4 rG3 h618 n0 A618.old c620) (wd hw 34 rfl) (wd hw 2 rfl) (by decide) (by decide)) (kc := 1) (ks := 4) (by decide) (by decide) all0 (fun _ => sf0) fun v621 T621 h621 L621 A621 K621 q621 => ?_
      have Q622 : Keep h0 h621 [] := Q619.trans K621 all0
      obtain ⟨b621, kA621, rfl, bg621, V621⟩ := q621
      show Wp pG e below _ T621 (mkF m 49 _ [(.ref b621), (.ref a618), (.ref a618)])
      have c623 := (X618.keep K621)
      have c624 := ((show Fld Z h618 a618 "java/lang/String" "value" "[B" .null from D618 (Or.inr (wd hw 8 rfl)) (ty := (.array .byte)) (by decide)).keep K621 nin0)
      have c625 := ((show Fld Z h618 a618 "java/lang/String" "coder" "B" (.int (0 : Int32)) from D618 (Or.inr (wd hw 9 rfl)) (ty := .byte) (by decide)).keep K621 nin0)
      have c627 := (Safe.keep K621 sf0 (A618.ch rfl).1 s618)
      refine f_callI A621 (a := a618) at_49 (pc' := 52) rfl rfl (wd hw 61 rfl) (wd hw 62 rfl) (wd hw 63 rfl) (by decide) pd17 [(.ref b621)] [(.ref a618)] rfl rfl rfl 1 (Nat.le_of_eq rfl) (payNew (W := 1) A621 hw (wd hw 6 rfl) (cs := [(100 : Int32), (101 : Int32), (110 : Int32), (121 : Int32)]) 4 z618 c623 c624 c625 V621 O2 P5 rfl rfl (by decide) (by decide) (by decide) (by decide) (by decide)) (kc := 1) (ks := 4) (by decide) (by decide) (allS z618 all0) (fun _ => (sfS c627 sf0)) fun v626 T626 h626 L626 A626 K626 q626 => ?_
      have Q628 : Keep h0 h626 [] := Q622.trans K626 (allS (Or.inr y618) all0)
      obtain ⟨rfl, t626, tz626, tg626, tn626, G626⟩ := q626
      show Wp pG e below _ T626 (mkF m 52 _ [(.ref a618)])
      refine f_callS A626 at_52 (pc' := 55) rfl (wd hw 81 rfl) (wd hw 82 rfl) (wd hw 16 rfl) (wd hw 83 rfl) (by decide) pd18 [(.ref a618)] [] rfl rfl rfl 0 (Nat.le_of_eq rfl) (CN.pay (W := 0) A626 (m_fk l Z a0 hw aA aD aM aL vv a618 t626 [(100 : Int32), (101 : Int32), (110 : Int32), (121 : Int32)] (.ref aD) zc O2 P5 h626 n0 A626.old hV G626 rfl) (wd hw 83 rfl) (wd hw 16 rfl) (by decide) (by decide)) (kc := 1) (ks := 4) (by decide) (by decide) all0 (fun _ => sf0) fun v629 T629 h629 L629 A629 K629 q629 => ?_
      have Q630 : Keep h0 h629 [] := Q628.trans K629 all0
      obtain rfl := q629
      show Wp pG e below _ T629 (mkF m 55 _ [(.ref aD)])
      refine f_aload A629 at_55 (pc' := 57) rfl rfl rfl ?_
      refine f_acmp A629 rfl rfl at_57 true (decide_eq_true rfl) (by decide) (pc' := 60) (by decide) ?_
      refine f_iconst A629 at_60 (pc' := 61) rfl 1 rfl ?_
      refine f_goto A629 at_61 (pc' := 65) (by decide) (by decide) ?_
      exact f_retBW A629 hEL hlk hret at_65 (by decide) (1 : Int32) (by decide) (by decide) (by decide) Q630 rfl
    · obtain ⟨P, hP, hPn⟩ := rem_pos pos 4 4 rfl (by decide)
      refine f_iload A617 at_33 (pc' := 35) rfl rfl ?_
      refine f_ifY A617 at_35 ((if0 _ _).trans (feq (by decide : ¬ (1 : Int32) = (0 : Int32))).2) (pc' := 66) (by decide) (by decide) ?_
      refine f_iload A617 at_66 (pc' := 68) rfl rfl ?_
      refine f_iconst A617 at_68 (pc' := 69) rfl 1 rfl ?_
      refine f_icN A617 at_69 (teq (by decide : (1 : Int32) = (1 : Int32))).2 (pc' := 72) rfl ?_
      refine f_aload A617 at_72 (pc' := 74) rfl rfl rfl ?_
      refine f_iload A617 at_74 (pc' := 76) rfl rfl ?_
      refine f_callS A617 at_76 (pc' := 79) rfl (wd hw 32 rfl) (wd hw 33 rfl) (wd hw 2 rfl) (wd hw 34 rfl) (by decide) pd16 [(.ref w614), (.int (4 : Int32))] [] rfl rfl rfl 0 (Nat.le_of_eq rfl) (CN.pay (W := 0) A617 (m_ck10 l Z a0 hw w614 u614 zc O2 P5 fm O4 rG3 h614 n0 A617.old G614) (wd hw 34 rfl) (wd hw 2 rfl) (by decide) (by decide)) (kc := 1) (ks := 4) (by decide) (by decide) all0 (fun _ => sf0) fun v631 T631 h631 L631 A631 K631 q631 => ?_
      have Q632 : Keep h0 h631 [] := Q615.trans K631 all0
      obtain ⟨b631, kA631, rfl, bg631, V631⟩ := q631
      show Wp pG e below _ T631 (mkF m 79 _ [(.ref b631)])
      refine f_astore A631 at_79 (pc' := 81) rfl rfl (L' := #[.val (.int sel), .val (.int pos), .val (.int ch), .val (.long bytes), .second, .val (.int (1 : Int32)), .val (.int (1 : Int32)), .val (.ref w614), .val (.ref aD), .val (.int (4 : Int32)), .val (.ref b631), .unset, .unset, .unset, .unset]) rfl ?_
      refine f_iloadN A631 at_81 (pc' := 82) rfl rfl ?_
      refine f_ldcI A631 at_82 (pc' := 84) rfl (wd hw 113 rfl) ?_
      refine f_iand A631 at_84 (pc' := 85) rfl (pos &&& (2147483647 : Int32)) rfl ?_
      refine f_iload A631 at_85 (pc' := 87) rfl rfl ?_
      refine f_irem A631 at_87 (pc' := 88) rfl (by decide) (Int32.ofNat P) hP ?_
      refine f_istore A631 at_88 (pc' := 90) rfl (L' := #[.val (.int sel), .val (.int pos), .val (.int ch), .val (.long bytes), .second, .val (.int (1 : Int32)), .val (.int (1 : Int32)), .val (.ref w614), .val (.ref aD), .val (.int (4 : Int32)), .val (.ref b631), .val (.int (Int32.ofNat P)), .unset, .unset, .unset]) rfl ?_
      refine f_iloadN A631 at_90 (pc' := 91) rfl rfl ?_
      refine f_i2c A631 at_91 (pc' := 92) rfl c1 hc1 ?_
      refine f_istore A631 at_92 (pc' := 94) rfl (L' := #[.val (.int sel), .val (.int pos), .val (.int ch), .val (.long bytes), .second, .val (.int (1 : Int32)), .val (.int (1 : Int32)), .val (.ref w614), .val (.ref aD), .val (.int (4 : Int32)), .val (.ref b631), .val (.int (Int32.ofNat P)), .val (.int c1), .unset, .unset]) rfl ?_
      refine f_aload A631 at_94 (pc' := 96) rfl rfl rfl ?_
      refine f_iload A631 at_96 (pc' := 98) rfl rfl ?_
      refine f_caload A631 at_98 (pc' := 99) rfl V631 (ofn_in hPn (by decide)) (v := (.int (([(100 : Int32), (101 : Int32), (110 : Int32), (121 : Int32)] : List Int32).getD P 0))) (by rw [ofn_clamp (by omega)]; exact getDm (cs := [(100 : Int32), (101 : Int32), (110 : Int32), (121 : Int32)]) _ hPn) ?_
      refine f_istore A631 at_99 (pc' := 101) rfl (L' := #[.val (.int sel), .val (.int pos), .val (.int ch), .val (.long bytes), .second, .val (.int (1 : Int32)), .val (.int (1 : Int32)), .val (.ref w614), .val (.ref aD), .val (.int (4 : Int32)), .val (.ref b631), .val (.int (Int32.ofNat P)), .val (.int c1), .val (.int (([(100 : Int32), (101 : Int32), (110 : Int32), (121 : Int32)] : List Int32).getD P 0)), .unset]) rfl ?_
      refine f_aload A631 at_101 (pc' := 103) rfl rfl rfl ?_
      refine f_iload A631 at_103 (pc' := 105) rfl rfl ?_
      refine f_iload A631 at_105 (pc' := 107) rfl rfl ?_
      refine f_castore A631 at_107 (pc' := 108) rfl V631 (ofn_in hPn (by decide)) P (ofn_clamp (by omega)) hPn c1 (nar_id rc1) (vs' := ((([(100 : Int32), (101 : Int32), (110 : Int32), (121 : Int32)] : List Int32).set P c1).map Value.int)) (by rw [List.map_set]; rfl) (Nat.le_trans A617.sz bg631) (fun _ => (Safe.arv A631.hZ.alike V631 (by decide))) fun T633 h633 A633 K633 V633 => ?_
      have Q634 : Keep h0 h633 [] := Q632.trans K633 (allS (Or.inr (Nat.le_trans Q615.1 bg631)) all0)
      by_cases q8 : (255 : Int32) < c1
      · by_cases qe : c1 = ([(100 : Int32), (101 : Int32), (110 : Int32), (121 : Int32)] : List Int32).getD P 0
        · refine f_new A633 at_108 (pc' := 111) rfl (wd hw 31 rfl) (wd hw 6 rfl) (wd hw 5 rfl) (by decide) (by decide) fun a635 T635 h635 g635 A635 E635 X635 D635 => ?_
          have z635 : n0 ≤ a635 := Nat.le_trans A633.sz (Nat.le_of_eq g635.symm)
          have y635 : h0.size ≤ a635 := Nat.le_trans Q634.1 (Nat.le_of_eq g635.symm)
          have Q636 : Keep h0 h635 [] := Q634.ext E635
          have s635 := Safe.ext E635 (A633.ch rfl).1 (Safe.new (Nat.le_of_eq g635.symm))
          refine f_dup A635 at_111 (pc' := 112) rfl rfl ?_
          refine f_aload A635 at_112 (pc' := 114) rfl rfl rfl ?_
          have c637 := (V633.ext E635)
          refine f_callI A635 (a := a635) at_114 (pc' := 117) rfl rfl (wd hw 61 rfl) (wd hw 62 rfl) (wd hw 63 rfl) (by decide) pd17 [(.ref b631)] [(.ref a635)] rfl rfl rfl 1 (Nat.le_of_eq rfl) (CN.pay (W := 1) A635 (m_new1W l Z a0 hw a635 b631 kA631 4 (([(100 : Int32), (101 : Int32), (110 : Int32), (121 : Int32)] : List Int32).set P c1) (.int 0) P Oa Oh Ol zc O2 P5 h635 n0 A635.old X635 (show Fld Z h635 a635 "java/lang/String" "value" "[B" .null from D635 (Or.inr (wd hw 8 rfl)) (ty := (.array .byte)) (by decide)) (show Fld Z h635 a635 "java/lang/String" "coder" "B" (.int (0 : Int32)) from D635 (Or.inr (wd hw 9 rfl)) (ty := .byte) (by decide)) z635 c637 (by rw [List.length_set]; rfl) (by decide) hPn (fun i hi => by rw [getD_set_ne hi]; have hq : ∀ i : Fin 4, ¬ (255 : Int32) < ([(100 : Int32), (101 : Int32), (110 : Int32), (121 : Int32)] : List Int32).getD i.val 0 := (by decide); exact hq ⟨i, Nat.lt_trans hi hPn⟩) (by rw [getD_set_eq hPn]; exact q8) (lat_set (by decide) (c16 rc1))) (wd hw 63 rfl) (wd hw 5 rfl) (by decide) (by decide)) (kc := 2) (ks := 108) (by decide) (by decide) (allS z635 all0) (fun _ => (sfS s635 sf0)) fun v638 T638 h638 L638 A638 K638 q638 => ?_
          have Q639 : Keep h0 h638 [] := Q636.trans K638 (allS (Or.inr y635) all0)
          obtain ⟨rfl, t638, tz638, tg638, tn638, G638⟩ := q638
          show Wp pG e below _ T638 (mkF m 117 _ [(.ref a635)])
          refine f_callS A638 at_117 (pc' := 120) rfl (wd hw 81 rfl) (wd hw 82 rfl) (wd hw 16 rfl) (wd hw 83 rfl) (by decide) pd18 [(.ref a635)] [] rfl rfl rfl 0 (Nat.le_of_eq rfl) (CN.pay (W := 0) A638 (m_fk l Z a0 hw aA aD aM aL vv a635 t638 (([(100 : Int32), (101 : Int32), (110 : Int32), (121 : Int32)] : List Int32).set P c1) (.ref aD) zc O2 P5 h638 n0 A638.old hV G638 (by rw [qe, set_self hPn]; rfl)) (wd hw 83 rfl) (wd hw 16 rfl) (by decide) (by decide)) (kc := 1) (ks := 4) (by decide) (by decide) all0 (fun _ => sf0) fun v640 T640 h640 L640 A640 K640 q640 => ?_
          have Q641 : Keep h0 h640 [] := Q639.trans K640 all0
          obtain rfl := q640
          show Wp pG e below _ T640 (mkF m 120 _ [(.ref aD)])
          refine f_astore A640 at_120 (pc' := 122) rfl rfl (L' := #[.val (.int sel), .val (.int pos), .val (.int ch), .val (.long bytes), .second, .val (.int (1 : Int32)), .val (.int (1 : Int32)), .val (.ref w614), .val (.ref aD), .val (.int (4 : Int32)), .val (.ref b631), .val (.int (Int32.ofNat P)), .val (.int c1), .val (.int (([(100 : Int32), (101 : Int32), (110 : Int32), (121 : Int32)] : List Int32).getD P 0)), .val (.ref aD)]) rfl ?_
          refine f_iload A640 at_122 (pc' := 124) rfl rfl ?_
          refine f_iload A640 at_124 (pc' := 126) rfl rfl ?_
          refine f_icN A640 at_126 (teq qe).2 (pc' := 129) rfl ?_
          refine f_aload A640 at_129 (pc' := 131) rfl rfl rfl ?_
          refine f_aload A640 at_131 (pc' := 133) rfl rfl rfl ?_
          refine f_acmp A640 rfl rfl at_133 true (decide_eq_true rfl) (by decide) (pc' := 136) (by decide) ?_
          refine f_iconst A640 at_136 (pc' := 137) rfl 1 rfl ?_
          refine f_goto A640 at_137 (pc' := 141) (by decide) (by decide) ?_
          exact f_retBW A640 hEL hlk hret at_141 (by decide) (1 : Int32) (by decide) (by decide) (by decide) Q641 rfl
        · refine f_new A633 at_108 (pc' := 111) rfl (wd hw 31 rfl) (wd hw 6 rfl) (wd hw 5 rfl) (by decide) (by decide) fun a642 T642 h642 g642 A642 E642 X642 D642 => ?_
          have z642 : n0 ≤ a642 := Nat.le_trans A633.sz (Nat.le_of_eq g642.symm)
          have y642 : h0.size ≤ a642 := Nat.le_trans Q634.1 (Nat.le_of_eq g642.symm)
          have Q643 : Keep h0 h642 [] := Q634.ext E642
          have s642 := Safe.ext E642 (A633.ch rfl).1 (Safe.new (Nat.le_of_eq g642.symm))
          refine f_dup A642 at_111 (pc' := 112) rfl rfl ?_
          refine f_aload A642 at_112 (pc' := 114) rfl rfl rfl ?_
          have c644 := (V633.ext E642)
          refine f_callI A642 (a := a642) at_114 (pc' := 117) rfl rfl (wd hw 61 rfl) (wd hw 62 rfl) (wd hw 63 rfl) (by decide) pd17 [(.ref b631)] [(.ref a642)] rfl rfl rfl 1 (Nat.le_of_eq rfl) (CN.pay (W := 1) A642 (m_new1W l Z a0 hw a642 b631 kA631 4 (([(100 : Int32), (101 : Int32), (110 : Int32), (121 : Int32)] : List Int32).set P c1) (.int 0) P Oa Oh Ol zc O2 P5 h642 n0 A642.old X642 (show Fld Z h642 a642 "java/lang/String" "value" "[B" .null from D642 (Or.inr (wd hw 8 rfl)) (ty := (.array .byte)) (by decide)) (show Fld Z h642 a642 "java/lang/String" "coder" "B" (.int (0 : Int32)) from D642 (Or.inr (wd hw 9 rfl)) (ty := .byte) (by decide)) z642 c644 (by rw [List.length_set]; rfl) (by decide) hPn (fun i hi => by rw [getD_set_ne hi]; have hq : ∀ i : Fin 4, ¬ (255 : Int32) < ([(100 : Int32), (101 : Int32), (110 : Int32), (121 : Int32)] : List Int32).getD i.val 0 := (by decide); exact hq ⟨i, Nat.lt_trans hi hPn⟩) (by rw [getD_set_eq hPn]; exact q8) (lat_set (by decide) (c16 rc1))) (wd hw 63 rfl) (wd hw 5 rfl) (by decide) (by decide)) (kc := 2) (ks := 108) (by decide) (by decide) (allS z642 all0) (fun _ => (sfS s642 sf0)) fun v645 T645 h645 L645 A645 K645 q645 => ?_
          have Q646 : Keep h0 h645 [] := Q643.trans K645 (allS (Or.inr y642) all0)
          obtain ⟨rfl, t645, tz645, tg645, tn645, G645⟩ := q645
          show Wp pG e below _ T645 (mkF m 117 _ [(.ref a642)])
          refine f_callS A645 at_117 (pc' := 120) rfl (wd hw 81 rfl) (wd hw 82 rfl) (wd hw 16 rfl) (wd hw 83 rfl) (by decide) pd18 [(.ref a642)] [] rfl rfl rfl 0 (Nat.le_of_eq rfl) (CN.pay (W := 0) A645 (m_fk l Z a0 hw aA aD aM aL vv a642 t645 (([(100 : Int32), (101 : Int32), (110 : Int32), (121 : Int32)] : List Int32).set P c1) .null zc O2 P5 h645 n0 A645.old hV G645 (set_no1 hPn qe)) (wd hw 83 rfl) (wd hw 16 rfl) (by decide) (by decide)) (kc := 1) (ks := 4) (by decide) (by decide) all0 (fun _ => sf0) fun v647 T647 h647 L647 A647 K647 q647 => ?_
          have Q648 : Keep h0 h647 [] := Q646.trans K647 all0
          obtain rfl := q647
          show Wp pG e below _ T647 (mkF m 120 _ [.null])
          refine f_astore A647 at_120 (pc' := 122) rfl rfl (L' := #[.val (.int sel), .val (.int pos), .val (.int ch), .val (.long bytes), .second, .val (.int (1 : Int32)), .val (.int (1 : Int32)), .val (.ref w614), .val (.ref aD), .val (.int (4 : Int32)), .val (.ref b631), .val (.int (Int32.ofNat P)), .val (.int c1), .val (.int (([(100 : Int32), (101 : Int32), (110 : Int32), (121 : Int32)] : List Int32).getD P 0)), .val .null]) rfl ?_
          refine f_iload A647 at_122 (pc' := 124) rfl rfl ?_
          refine f_iload A647 at_124 (pc' := 126) rfl rfl ?_
          refine f_icY A647 at_126 (feq qe).2 (pc' := 142) (by decide) (by decide) ?_
          refine f_aload A647 at_142 (pc' := 144) rfl rfl rfl ?_
          refine f_nonN A647 at_144 (pc' := 147) rfl ?_
          refine f_iconst A647 at_147 (pc' := 148) rfl 1 rfl ?_
          refine f_goto A647 at_148 (pc' := 152) (by decide) (by decide) ?_
          exact f_retBW A647 hEL hlk hret at_152 (by decide) (1 : Int32) (by decide) (by decide) (by decide) Q648 rfl
      · by_cases qe : c1 = ([(100 : Int32), (101 : Int32), (110 : Int32), (121 : Int32)] : List Int32).getD P 0
        · refine f_new A633 at_108 (pc' := 111) rfl (wd hw 31 rfl) (wd hw 6 rfl) (wd hw 5 rfl) (by decide) (by decide) fun a649 T649 h649 g649 A649 E649 X649 D649 => ?_
          have z649 : n0 ≤ a649 := Nat.le_trans A633.sz (Nat.le_of_eq g649.symm)
          have y649 : h0.size ≤ a649 := Nat.le_trans Q634.1 (Nat.le_of_eq g649.symm)
          have Q650 : Keep h0 h649 [] := Q634.ext E649
          have s649 := Safe.ext E649 (A633.ch rfl).1 (Safe.new (Nat.le_of_eq g649.symm))
          refine f_dup A649 at_111 (pc' := 112) rfl rfl ?_
          refine f_aload A649 at_112 (pc' := 114) rfl rfl rfl ?_
          have c651 := (V633.ext E649)
          refine f_callI A649 (a := a649) at_114 (pc' := 117) rfl rfl (wd hw 61 rfl) (wd hw 62 rfl) (wd hw 63 rfl) (by decide) pd17 [(.ref b631)] [(.ref a649)] rfl rfl rfl 1 (Nat.le_of_eq rfl) (payNew (W := 1) A649 hw (wd hw 6 rfl) (cs := (([(100 : Int32), (101 : Int32), (110 : Int32), (121 : Int32)] : List Int32).set P c1)) 4 z649 X649 (show Fld Z h649 a649 "java/lang/String" "value" "[B" .null from D649 (Or.inr (wd hw 8 rfl)) (ty := (.array .byte)) (by decide)) (show Fld Z h649 a649 "java/lang/String" "coder" "B" (.int (0 : Int32)) from D649 (Or.inr (wd hw 9 rfl)) (ty := .byte) (by decide)) c651 O2 P5 (by rw [List.length_set]; rfl) rfl (by decide) (by decide) (lat_set (by decide) (c8 rc1 q8)) (by decide) (by decide)) (kc := 1) (ks := 4) (by decide) (by decide) (allS z649 all0) (fun _ => (sfS s649 sf0)) fun v652 T652 h652 L652 A652 K652 q652 => ?_
          have Q653 : Keep h0 h652 [] := Q650.trans K652 (allS (Or.inr y649) all0)
          obtain ⟨rfl, t652, tz652, tg652, tn652, G652⟩ := q652
          show Wp pG e below _ T652 (mkF m 117 _ [(.ref a649)])
          refine f_callS A652 at_117 (pc' := 120) rfl (wd hw 81 rfl) (wd hw 82 rfl) (wd hw 16 rfl) (wd hw 83 rfl) (by decide) pd18 [(.ref a649)] [] rfl rfl rfl 0 (Nat.le_of_eq rfl) (CN.pay (W := 0) A652 (m_fk l Z a0 hw aA aD aM aL vv a649 t652 (([(100 : Int32), (101 : Int32), (110 : Int32), (121 : Int32)] : List Int32).set P c1) (.ref aD) zc O2 P5 h652 n0 A652.old hV G652 (by rw [qe, set_self hPn]; rfl)) (wd hw 83 rfl) (wd hw 16 rfl) (by decide) (by decide)) (kc := 1) (ks := 4) (by decide) (by decide) all0 (fun _ => sf0) fun v654 T654 h654 L654 A654 K654 q654 => ?_
          have Q655 : Keep h0 h654 [] := Q653.trans K654 all0
          obtain rfl := q654
          show Wp pG e below _ T654 (mkF m 120 _ [(.ref aD)])
          refine f_astore A654 at_120 (pc' := 122) rfl rfl (L' := #[.val (.int sel), .val (.int pos), .val (.int ch), .val (.long bytes), .second, .val (.int (1 : Int32)), .val (.int (1 : Int32)), .val (.ref w614), .val (.ref aD), .val (.int (4 : Int32)), .val (.ref b631), .val (.int (Int32.ofNat P)), .val (.int c1), .val (.int (([(100 : Int32), (101 : Int32), (110 : Int32), (121 : Int32)] : List Int32).getD P 0)), .val (.ref aD)]) rfl ?_
          refine f_iload A654 at_122 (pc' := 124) rfl rfl ?_
          refine f_iload A654 at_124 (pc' := 126) rfl rfl ?_
          refine f_icN A654 at_126 (teq qe).2 (pc' := 129) rfl ?_
          refine f_aload A654 at_129 (pc' := 131) rfl rfl rfl ?_
          refine f_aload A654 at_131 (pc' := 133) rfl rfl rfl ?_
          refine f_acmp A654 rfl rfl at_133 true (decide_eq_true rfl) (by decide) (pc' := 136) (by decide) ?_
          refine f_iconst A654 at_136 (pc' := 137) rfl 1 rfl ?_
          refine f_goto A654 at_137 (pc' := 141) (by decide) (by decide) ?_
          exact f_retBW A654 hEL hlk hret at_141 (by decide) (1 : Int32) (by decide) (by decide) (by decide) Q655 rfl
        · refine f_new A633 at_108 (pc' := 111) rfl (wd hw 31 rfl) (wd hw 6 rfl) (wd hw 5 rfl) (by decide) (by decide) fun a656 T656 h656 g656 A656 E656 X656 D656 => ?_
          have z656 : n0 ≤ a656 := Nat.le_trans A633.sz (Nat.le_of_eq g656.symm)
          have y656 : h0.size ≤ a656 := Nat.le_trans Q634.1 (Nat.le_of_eq g656.symm)
          have Q657 : Keep h0 h656 [] := Q634.ext E656
          have s656 := Safe.ext E656 (A633.ch rfl).1 (Safe.new (Nat.le_of_eq g656.symm))
          refine f_dup A656 at_111 (pc' := 112) rfl rfl ?_
          refine f_aload A656 at_112 (pc' := 114) rfl rfl rfl ?_
          have c658 := (V633.ext E656)
          refine f_callI A656 (a := a656) at_114 (pc' := 117) rfl rfl (wd hw 61 rfl) (wd hw 62 rfl) (wd hw 63 rfl) (by decide) pd17 [(.ref b631)] [(.ref a656)] rfl rfl rfl 1 (Nat.le_of_eq rfl) (payNew (W := 1) A656 hw (wd hw 6 rfl) (cs := (([(100 : Int32), (101 : Int32), (110 : Int32), (121 : Int32)] : List Int32).set P c1)) 4 z656 X656 (show Fld Z h656 a656 "java/lang/String" "value" "[B" .null from D656 (Or.inr (wd hw 8 rfl)) (ty := (.array .byte)) (by decide)) (show Fld Z h656 a656 "java/lang/String" "coder" "B" (.int (0 : Int32)) from D656 (Or.inr (wd hw 9 rfl)) (ty := .byte) (by decide)) c658 O2 P5 (by rw [List.length_set]; rfl) rfl (by decide) (by decide) (lat_set (by decide) (c8 rc1 q8)) (by decide) (by decide)) (kc := 1) (ks := 4) (by decide) (by decide) (allS z656 all0) (fun _ => (sfS s656 sf0)) fun v659 T659 h659 L659 A659 K659 q659 => ?_
          have Q660 : Keep h0 h659 [] := Q657.trans K659 (allS (Or.inr y656) all0)
          obtain ⟨rfl, t659, tz659, tg659, tn659, G659⟩ := q659
          show Wp pG e below _ T659 (mkF m 117 _ [(.ref a656)])
          refine f_callS A659 at_117 (pc' := 120) rfl (wd hw 81 rfl) (wd hw 82 rfl) (wd hw 16 rfl) (wd hw 83 rfl) (by decide) pd18 [(.ref a656)] [] rfl rfl rfl 0 (Nat.le_of_eq rfl) (CN.pay (W := 0) A659 (m_fk l Z a0 hw aA aD aM aL vv a656 t659 (([(100 : Int32), (101 : Int32), (110 : Int32), (121 : Int32)] : List Int32).set P c1) .null zc O2 P5 h659 n0 A659.old hV G659 (set_no1 hPn qe)) (wd hw 83 rfl) (wd hw 16 rfl) (by decide) (by decide)) (kc := 1) (ks := 4) (by decide) (by decide) all0 (fun _ => sf0) fun v661 T661 h661 L661 A661 K661 q661 => ?_
          have Q662 : Keep h0 h661 [] := Q660.trans K661 all0
          obtain rfl := q661
          show Wp pG e below _ T661 (mkF m 120 _ [.null])
          refine f_astore A661 at_120 (pc' := 122) rfl rfl (L' := #[.val (.int sel), .val (.int pos), .val (.int ch), .val (.long bytes), .second, .val (.int (1 : Int32)), .val (.int (1 : Int32)), .val (.ref w614), .val (.ref aD), .val (.int (4 : Int32)), .val (.ref b631), .val (.int (Int32.ofNat P)), .val (.int c1), .val (.int (([(100 : Int32), (101 : Int32), (110 : Int32), (121 : Int32)] : List Int32).getD P 0)), .val .null]) rfl ?_
          refine f_iload A661 at_122 (pc' := 124) rfl rfl ?_
          refine f_iload A661 at_124 (pc' := 126) rfl rfl ?_
          refine f_icY A661 at_126 (feq qe).2 (pc' := 142) (by decide) (by decide) ?_
          refine f_aload A661 at_142 (pc' := 144) rfl rfl rfl ?_
          refine f_nonN A661 at_144 (pc' := 147) rfl ?_
          refine f_iconst A661 at_147 (pc' := 148) rfl 1 rfl ?_
          refine f_goto A661 at_148 (pc' := 152) (by decide) (by decide) ?_
          exact f_retBW A661 hEL hlk hret at_152 (by decide) (1 : Int32) (by decide) (by decide) (by decide) Q662 rfl
    · obtain ⟨n8, hn8⟩ : ∃ z, pos &&& 7 = z := ⟨_, rfl⟩
      have hn9 := lt8 (hn8 ▸ c_and pos 7 (by decide))
      rcases hn9 with rfl | rfl | rfl | rfl | rfl | rfl | rfl | rfl
      · refine f_iload A617 at_33 (pc' := 35) rfl rfl ?_
        refine f_ifY A617 at_35 ((if0 _ _).trans (feq (by decide : ¬ (2 : Int32) = (0 : Int32))).2) (pc' := 66) (by decide) (by decide) ?_
        refine f_iload A617 at_66 (pc' := 68) rfl rfl ?_
        refine f_iconst A617 at_68 (pc' := 69) rfl 1 rfl ?_
        refine f_icY A617 at_69 (feq (by decide : ¬ (2 : Int32) = (1 : Int32))).2 (pc' := 153) (by decide) (by decide) ?_
        refine f_iload A617 at_153 (pc' := 155) rfl rfl ?_
        refine f_iconst A617 at_155 (pc' := 156) rfl 2 rfl ?_
        refine f_icN A617 at_156 (teq (by decide : (2 : Int32) = (2 : Int32))).2 (pc' := 159) rfl ?_
        refine f_new A617 at_159 (pc' := 162) rfl (wd hw 31 rfl) (wd hw 6 rfl) (wd hw 5 rfl) (by decide) (by decide) fun a663 T663 h663 g663 A663 E663 X663 D663 => ?_
        have z663 : n0 ≤ a663 := Nat.le_trans A617.sz (Nat.le_of_eq g663.symm)
        have y663 : h0.size ≤ a663 := Nat.le_trans Q615.1 (Nat.le_of_eq g663.symm)
        have Q664 : Keep h0 h663 [] := Q615.ext E663
        have s663 := Safe.ext E663 (A617.ch rfl).1 (Safe.new (Nat.le_of_eq g663.symm))
        refine f_dup A663 at_162 (pc' := 163) rfl rfl ?_
        refine f_lloadN A663 at_163 (pc' := 164) rfl rfl ?_
        refine f_iloadN A663 at_164 (pc' := 165) rfl rfl ?_
        refine f_bipush A663 at_165 (pc' := 167) rfl 7 rfl ?_
        refine f_iand A663 at_167 (pc' := 168) rfl (0 : Int32) hn8 ?_
        refine f_callS A663 at_168 (pc' := 171) rfl (wd hw 118 rfl) (wd hw 119 rfl) (wd hw 2 rfl) (wd hw 120 rfl) (by decide) pd19 [(.long bytes), (.int (0 : Int32))] [(.ref a663), (.ref a663)] rfl rfl rfl 2 (Nat.le_of_eq rfl) (CN.pay (W := 2) A663 (m_dc0 l Z a0 hw bytes d0 d1 d2 d3 d4 d5 d6 h663 n0 A663.old hd0 rd0 hd1 rd1 hd2 rd2 hd3 rd3 hd4 rd4 hd5 rd5 hd6 rd6) (wd hw 120 rfl) (wd hw 2 rfl) (by decide) (by decide)) (kc := 1) (ks := 0) (by decide) (by decide) all0 (fun _ => sf0) fun v665 T665 h665 L665 A665 K665 q665 => ?_
        have Q666 : Keep h0 h665 [] := Q664.trans K665 all0
        obtain ⟨b665, kA665, rfl, bg665, V665⟩ := q665
        show Wp pG e below _ T665 (mkF m 171 _ [(.ref b665), (.ref a663), (.ref a663)])
        have c667 := (X663.keep K665)
        have c668 := ((show Fld Z h663 a663 "java/lang/String" "value" "[B" .null from D663 (Or.inr (wd hw 8 rfl)) (ty := (.array .byte)) (by decide)).keep K665 nin0)
        have c669 := ((show Fld Z h663 a663 "java/lang/String" "coder" "B" (.int (0 : Int32)) from D663 (Or.inr (wd hw 9 rfl)) (ty := .byte) (by decide)).keep K665 nin0)
        have c671 := (Safe.keep K665 sf0 (A663.ch rfl).1 s663)
        refine f_callIW A665 (a := a663) at_171 (pc' := 174) rfl rfl (wd hw 61 rfl) (wd hw 62 rfl) (wd hw 63 rfl) (by decide) pd17 [(.ref b665)] [(.ref a663)] rfl rfl rfl 1 (Nat.le_of_eq rfl) (CW.pay (W := 1) A665 hEL (m_new1E l Z a0 hw a663 b665 kA665 [] h665 n0 A665.old hEL c667 c668 c669 z663 V665) (wd hw 63 rfl) (wd hw 5 rfl) (by decide) (by decide) (allS ⟨(Nat.lt_of_lt_of_le X663.lt K665.1), c671⟩ all0)) (kc := 2) (ks := 4) (by decide) (by decide) (allS z663 all0) fun v670 vm670 T670 h670 L670 A670 K670 C670 q670 => ?_
        have Q672 : Keep h0 h670 [] := Q666.trans K670 (allS (Or.inr y663) all0)
        obtain ⟨rfl, t670, G670⟩ := q670
        show Wp pG e below _ T670 (mkF m 174 _ [(.ref a663)])
        refine f_astore A670 at_174 (pc' := 176) rfl rfl (L' := #[.val (.int sel), .val (.int pos), .val (.int ch), .val (.long bytes), .second, .val (.int (1 : Int32)), .val (.int (2 : Int32)), .val (.ref w614), .val (.ref aD), .val (.int (4 : Int32)), .val (.ref a663), .unset, .unset, .unset, .unset]) rfl ?_
        refine f_aload A670 at_176 (pc' := 178) rfl rfl rfl ?_
        refine f_callS A670 at_178 (pc' := 181) rfl (wd hw 81 rfl) (wd hw 82 rfl) (wd hw 16 rfl) (wd hw 83 rfl) (by decide) pd18 [(.ref a663)] [] rfl rfl rfl 0 (Nat.le_of_eq rfl) (CN.pay (W := 0) A670 (m_fk l Z a0 hw aA aD aM aL vv a663 t670 [] (vOf aA aD aM aL []) zc O2 P5 h670 n0 A670.old hV G670 rfl) (wd hw 83 rfl) (wd hw 16 rfl) (by decide) (by decide)) (kc := 1) (ks := 4) (by decide) (by decide) all0 (fun _ => sf0) fun v673 T673 h673 L673 A673 K673 q673 => ?_
        have Q674 : Keep h0 h673 [] := Q672.trans K673 all0
        obtain rfl := q673
        show Wp pG e below _ T673 (mkF m 181 _ [(vOf aA aD aM aL [])])
        refine f_aload A673 at_181 (pc' := 183) rfl rfl rfl ?_
        have c675 := (G670.keep K673 nin0 nin0)
        refine f_callSW A673 at_183 (pc' := 186) rfl (wd hw 125 rfl) (wd hw 126 rfl) (wd hw 2 rfl) (wd hw 127 rfl) (by decide) pd18 [(.ref a663)] [(vOf aA aD aM aL [])] rfl rfl rfl 1 (by show Value.category (vOf aA aD aM aL []) + 0 ≤ 1; rw [cat_ref (vOf_ref _ _ _ _ _)]; exact Nat.le_refl _) (CW.pay (W := 1) A673 hEL (m_ref l Z a0 hw aA aD aM aL vv a663 t670 [] zc O2 P5 h673 n0 A673.old hEL hV c675) (wd hw 127 rfl) (wd hw 2 rfl) (by decide) (by decide) (fun _ q => nomatch q)) (kc := 8) (ks := 88) (by decide) (by decide) all0 fun v676 vm676 T676 h676 L676 A676 K676 C676 q676 => ?_
        have Q677 : Keep h0 h676 [] := Q674.trans K676 all0
        obtain rfl := q676
        show Wp pG e below _ T676 (mkF m 186 _ [(vOf aA aD aM aL []), (vOf aA aD aM aL [])])
        refine f_acmp A676 (vOf_ref _ _ _ _ _) (vOf_ref _ _ _ _ _) at_186 true (decide_eq_true rfl) (by decide) (pc' := 189) (by decide) ?_
        refine f_iconst A676 at_189 (pc' := 190) rfl 1 rfl ?_
        refine f_goto A676 at_190 (pc' := 194) (by decide) (by decide) ?_
        exact f_retBW A676 hEL hlk hret at_194 (by decide) (1 : Int32) (by decide) (by decide) (by decide) Q677 rfl
      · refine f_iload A617 at_33 (pc' := 35) rfl rfl ?_
        refine f_ifY A617 at_35 ((if0 _ _).trans (feq (by decide : ¬ (2 : Int32) = (0 : Int32))).2) (pc' := 66) (by decide) (by decide) ?_
        refine f_iload A617 at_66 (pc' := 68) rfl rfl ?_
        refine f_iconst A617 at_68 (pc' := 69) rfl 1 rfl ?_
        refine f_icY A617 at_69 (feq (by decide : ¬ (2 : Int32) = (1 : Int32))).2 (pc' := 153) (by decide) (by decide) ?_
        refine f_iload A617 at_153 (pc' := 155) rfl rfl ?_
        refine f_iconst A617 at_155 (pc' := 156) rfl 2 rfl ?_
        refine f_icN A617 at_156 (teq (by decide : (2 : Int32) = (2 : Int32))).2 (pc' := 159) rfl ?_
        refine f_new A617 at_159 (pc' := 162) rfl (wd hw 31 rfl) (wd hw 6 rfl) (wd hw 5 rfl) (by decide) (by decide) fun a678 T678 h678 g678 A678 E678 X678 D678 => ?_
        have z678 : n0 ≤ a678 := Nat.le_trans A617.sz (Nat.le_of_eq g678.symm)
        have y678 : h0.size ≤ a678 := Nat.le_trans Q615.1 (Nat.le_of_eq g678.symm)
        have Q679 : Keep h0 h678 [] := Q615.ext E678
        have s678 := Safe.ext E678 (A617.ch rfl).1 (Safe.new (Nat.le_of_eq g678.symm))
        refine f_dup A678 at_162 (pc' := 163) rfl rfl ?_
        refine f_lloadN A678 at_163 (pc' := 164) rfl rfl ?_
        refine f_iloadN A678 at_164 (pc' := 165) rfl rfl ?_
        refine f_bipush A678 at_165 (pc' := 167) rfl 7 rfl ?_
        refine f_iand A678 at_167 (pc' := 168) rfl (1 : Int32) hn8 ?_
        refine f_callS A678 at_168 (pc' := 171) rfl (wd hw 118 rfl) (wd hw 119 rfl) (wd hw 2 rfl) (wd hw 120 rfl) (by decide) pd19 [(.long bytes), (.int (1 : Int32))] [(.ref a678), (.ref a678)] rfl rfl rfl 2 (Nat.le_of_eq rfl) (CN.pay (W := 2) A678 (m_dc1 l Z a0 hw bytes d0 d1 d2 d3 d4 d5 d6 h678 n0 A678.old hd0 rd0 hd1 rd1 hd2 rd2 hd3 rd3 hd4 rd4 hd5 rd5 hd6 rd6) (wd hw 120 rfl) (wd hw 2 rfl) (by decide) (by decide)) (kc := 1) (ks := 1) (by decide) (by decide) all0 (fun _ => sf0) fun v680 T680 h680 L680 A680 K680 q680 => ?_
        have Q681 : Keep h0 h680 [] := Q679.trans K680 all0
        obtain ⟨b680, kA680, rfl, bg680, V680⟩ := q680
        show Wp pG e below _ T680 (mkF m 171 _ [(.ref b680), (.ref a678), (.ref a678)])
        have c682 := (X678.keep K680)
        have c683 := ((show Fld Z h678 a678 "java/lang/String" "value" "[B" .null from D678 (Or.inr (wd hw 8 rfl)) (ty := (.array .byte)) (by decide)).keep K680 nin0)
        have c684 := ((show Fld Z h678 a678 "java/lang/String" "coder" "B" (.int (0 : Int32)) from D678 (Or.inr (wd hw 9 rfl)) (ty := .byte) (by decide)).keep K680 nin0)
        have c686 := (Safe.keep K680 sf0 (A678.ch rfl).1 s678)
        refine f_callI A680 (a := a678) at_171 (pc' := 174) rfl rfl (wd hw 61 rfl) (wd hw 62 rfl) (wd hw 63 rfl) (by decide) pd17 [(.ref b680)] [(.ref a678)] rfl rfl rfl 1 (Nat.le_of_eq rfl) (payNew (W := 1) A680 hw (wd hw 6 rfl) (cs := [d0]) 1 z678 c682 c683 c684 V680 O2 P5 rfl rfl (by decide) (by decide) (lc (lat_of rd0) ln) (by decide) (by decide)) (kc := 1) (ks := 1) (by decide) (by decide) (allS z678 all0) (fun _ => (sfS c686 sf0)) fun v685 T685 h685 L685 A685 K685 q685 => ?_
        have Q687 : Keep h0 h685 [] := Q681.trans K685 (allS (Or.inr y678) all0)
        obtain ⟨rfl, t685, tz685, tg685, tn685, G685⟩ := q685
        show Wp pG e below _ T685 (mkF m 174 _ [(.ref a678)])
        refine f_astore A685 at_174 (pc' := 176) rfl rfl (L' := #[.val (.int sel), .val (.int pos), .val (.int ch), .val (.long bytes), .second, .val (.int (1 : Int32)), .val (.int (2 : Int32)), .val (.ref w614), .val (.ref aD), .val (.int (4 : Int32)), .val (.ref a678), .unset, .unset, .unset, .unset]) rfl ?_
        refine f_aload A685 at_176 (pc' := 178) rfl rfl rfl ?_
        refine f_callS A685 at_178 (pc' := 181) rfl (wd hw 81 rfl) (wd hw 82 rfl) (wd hw 16 rfl) (wd hw 83 rfl) (by decide) pd18 [(.ref a678)] [] rfl rfl rfl 0 (Nat.le_of_eq rfl) (CN.pay (W := 0) A685 (m_fk l Z a0 hw aA aD aM aL vv a678 t685 [d0] (vOf aA aD aM aL [d0]) zc O2 P5 h685 n0 A685.old hV G685 rfl) (wd hw 83 rfl) (wd hw 16 rfl) (by decide) (by decide)) (kc := 1) (ks := 4) (by decide) (by decide) all0 (fun _ => sf0) fun v688 T688 h688 L688 A688 K688 q688 => ?_
        have Q689 : Keep h0 h688 [] := Q687.trans K688 all0
        obtain rfl := q688
        show Wp pG e below _ T688 (mkF m 181 _ [(vOf aA aD aM aL [d0])])
        refine f_aload A688 at_181 (pc' := 183) rfl rfl rfl ?_
        have c690 := (G685.keep K688 nin0 nin0)
        refine f_callSW A688 at_183 (pc' := 186) rfl (wd hw 125 rfl) (wd hw 126 rfl) (wd hw 2 rfl) (wd hw 127 rfl) (by decide) pd18 [(.ref a678)] [(vOf aA aD aM aL [d0])] rfl rfl rfl 1 (by show Value.category (vOf aA aD aM aL [d0]) + 0 ≤ 1; rw [cat_ref (vOf_ref _ _ _ _ _)]; exact Nat.le_refl _) (CW.pay (W := 1) A688 hEL (m_ref l Z a0 hw aA aD aM aL vv a678 t685 [d0] zc O2 P5 h688 n0 A688.old hEL hV c690) (wd hw 127 rfl) (wd hw 2 rfl) (by decide) (by decide) (fun _ q => nomatch q)) (kc := 8) (ks := 88) (by decide) (by decide) all0 fun v691 vm691 T691 h691 L691 A691 K691 C691 q691 => ?_
        have Q692 : Keep h0 h691 [] := Q689.trans K691 all0
        obtain rfl := q691
        show Wp pG e below _ T691 (mkF m 186 _ [(vOf aA aD aM aL [d0]), (vOf aA aD aM aL [d0])])
        refine f_acmp A691 (vOf_ref _ _ _ _ _) (vOf_ref _ _ _ _ _) at_186 true (decide_eq_true rfl) (by decide) (pc' := 189) (by decide) ?_
        refine f_iconst A691 at_189 (pc' := 190) rfl 1 rfl ?_
        refine f_goto A691 at_190 (pc' := 194) (by decide) (by decide) ?_
        exact f_retBW A691 hEL hlk hret at_194 (by decide) (1 : Int32) (by decide) (by decide) (by decide) Q692 rfl
      · refine f_iload A617 at_33 (pc' := 35) rfl rfl ?_
        refine f_ifY A617 at_35 ((if0 _ _).trans (feq (by decide : ¬ (2 : Int32) = (0 : Int32))).2) (pc' := 66) (by decide) (by decide) ?_
        refine f_iload A617 at_66 (pc' := 68) rfl rfl ?_
        refine f_iconst A617 at_68 (pc' := 69) rfl 1 rfl ?_
        refine f_icY A617 at_69 (feq (by decide : ¬ (2 : Int32) = (1 : Int32))).2 (pc' := 153) (by decide) (by decide) ?_
        refine f_iload A617 at_153 (pc' := 155) rfl rfl ?_
        refine f_iconst A617 at_155 (pc' := 156) rfl 2 rfl ?_
        refine f_icN A617 at_156 (teq (by decide : (2 : Int32) = (2 : Int32))).2 (pc' := 159) rfl ?_
        refine f_new A617 at_159 (pc' := 162) rfl (wd hw 31 rfl) (wd hw 6 rfl) (wd hw 5 rfl) (by decide) (by decide) fun a693 T693 h693 g693 A693 E693 X693 D693 => ?_
        have z693 : n0 ≤ a693 := Nat.le_trans A617.sz (Nat.le_of_eq g693.symm)
        have y693 : h0.size ≤ a693 := Nat.le_trans Q615.1 (Nat.le_of_eq g693.symm)
        have Q694 : Keep h0 h693 [] := Q615.ext E693
        have s693 := Safe.ext E693 (A617.ch rfl).1 (Safe.new (Nat.le_of_eq g693.symm))
        refine f_dup A693 at_162 (pc' := 163) rfl rfl ?_
        refine f_lloadN A693 at_163 (pc' := 164) rfl rfl ?_
        refine f_iloadN A693 at_164 (pc' := 165) rfl rfl ?_
        refine f_bipush A693 at_165 (pc' := 167) rfl 7 rfl ?_
        refine f_iand A693 at_167 (pc' := 168) rfl (2 : Int32) hn8 ?_
        refine f_callS A693 at_168 (pc' := 171) rfl (wd hw 118 rfl) (wd hw 119 rfl) (wd hw 2 rfl) (wd hw 120 rfl) (by decide) pd19 [(.long bytes), (.int (2 : Int32))] [(.ref a693), (.ref a693)] rfl rfl rfl 2 (Nat.le_of_eq rfl) (CN.pay (W := 2) A693 (m_dc2 l Z a0 hw bytes d0 d1 d2 d3 d4 d5 d6 h693 n0 A693.old hd0 rd0 hd1 rd1 hd2 rd2 hd3 rd3 hd4 rd4 hd5 rd5 hd6 rd6) (wd hw 120 rfl) (wd hw 2 rfl) (by decide) (by decide)) (kc := 1) (ks := 2) (by decide) (by decide) all0 (fun _ => sf0) fun v695 T695 h695 L695 A695 K695 q695 => ?_
        have Q696 : Keep h0 h695 [] := Q694.trans K695 all0
        obtain ⟨b695, kA695, rfl, bg695, V695⟩ := q695
        show Wp pG e below _ T695 (mkF m 171 _ [(.ref b695), (.ref a693), (.ref a693)])
        have c697 := (X693.keep K695)
        have c698 := ((show Fld Z h693 a693 "java/lang/String" "value" "[B" .null from D693 (Or.inr (wd hw 8 rfl)) (ty := (.array .byte)) (by decide)).keep K695 nin0)
        have c699 := ((show Fld Z h693 a693 "java/lang/String" "coder" "B" (.int (0 : Int32)) from D693 (Or.inr (wd hw 9 rfl)) (ty := .byte) (by decide)).keep K695 nin0)
        have c701 := (Safe.keep K695 sf0 (A693.ch rfl).1 s693)
        refine f_callI A695 (a := a693) at_171 (pc' := 174) rfl rfl (wd hw 61 rfl) (wd hw 62 rfl) (wd hw 63 rfl) (by decide) pd17 [(.ref b695)] [(.ref a693)] rfl rfl rfl 1 (Nat.le_of_eq rfl) (payNew (W := 1) A695 hw (wd hw 6 rfl) (cs := [d0, d1]) 2 z693 c697 c698 c699 V695 O2 P5 rfl rfl (by decide) (by decide) (lc (lat_of rd0) (lc (lat_of rd1) ln)) (by decide) (by decide)) (kc := 1) (ks := 2) (by decide) (by decide) (allS z693 all0) (fun _ => (sfS c701 sf0)) fun v700 T700 h700 L700 A700 K700 q700 => ?_
        have Q702 : Keep h0 h700 [] := Q696.trans K700 (allS (Or.inr y693) all0)
        obtain ⟨rfl, t700, tz700, tg700, tn700, G700⟩ := q700
        show Wp pG e below _ T700 (mkF m 174 _ [(.ref a693)])
        refine f_astore A700 at_174 (pc' := 176) rfl rfl (L' := #[.val (.int sel), .val (.int pos), .val (.int ch), .val (.long bytes), .second, .val (.int (1 : Int32)), .val (.int (2 : Int32)), .val (.ref w614), .val (.ref aD), .val (.int (4 : Int32)), .val (.ref a693), .unset, .unset, .unset, .unset]) rfl ?_
        refine f_aload A700 at_176 (pc' := 178) rfl rfl rfl ?_
        refine f_callS A700 at_178 (pc' := 181) rfl (wd hw 81 rfl) (wd hw 82 rfl) (wd hw 16 rfl) (wd hw 83 rfl) (by decide) pd18 [(.ref a693)] [] rfl rfl rfl 0 (Nat.le_of_eq rfl) (CN.pay (W := 0) A700 (m_fk l Z a0 hw aA aD aM aL vv a693 t700 [d0, d1] (vOf aA aD aM aL [d0, d1]) zc O2 P5 h700 n0 A700.old hV G700 rfl) (wd hw 83 rfl) (wd hw 16 rfl) (by decide) (by decide)) (kc := 1) (ks := 4) (by decide) (by decide) all0 (fun _ => sf0) fun v703 T703 h703 L703 A703 K703 q703 => ?_
        have Q704 : Keep h0 h703 [] := Q702.trans K703 all0
        obtain rfl := q703
        show Wp pG e below _ T703 (mkF m 181 _ [(vOf aA aD aM aL [d0, d1])])
        refine f_aload A703 at_181 (pc' := 183) rfl rfl rfl ?_
        have c705 := (G700.keep K703 nin0 nin0)
        refine f_callSW A703 at_183 (pc' := 186) rfl (wd hw 125 rfl) (wd hw 126 rfl) (wd hw 2 rfl) (wd hw 127 rfl) (by decide) pd18 [(.ref a693)] [(vOf aA aD aM aL [d0, d1])] rfl rfl rfl 1 (by show Value.category (vOf aA aD aM aL [d0, d1]) + 0 ≤ 1; rw [cat_ref (vOf_ref _ _ _ _ _)]; exact Nat.le_refl _) (CW.pay (W := 1) A703 hEL (m_ref l Z a0 hw aA aD aM aL vv a693 t700 [d0, d1] zc O2 P5 h703 n0 A703.old hEL hV c705) (wd hw 127 rfl) (wd hw 2 rfl) (by decide) (by decide) (fun _ q => nomatch q)) (kc := 8) (ks := 88) (by decide) (by decide) all0 fun v706 vm706 T706 h706 L706 A706 K706 C706 q706 => ?_
        have Q707 : Keep h0 h706 [] := Q704.trans K706 all0
        obtain rfl := q706
        show Wp pG e below _ T706 (mkF m 186 _ [(vOf aA aD aM aL [d0, d1]), (vOf aA aD aM aL [d0, d1])])
        refine f_acmp A706 (vOf_ref _ _ _ _ _) (vOf_ref _ _ _ _ _) at_186 true (decide_eq_true rfl) (by decide) (pc' := 189) (by decide) ?_
        refine f_iconst A706 at_189 (pc' := 190) rfl 1 rfl ?_
        refine f_goto A706 at_190 (pc' := 194) (by decide) (by decide) ?_
        exact f_retBW A706 hEL hlk hret at_194 (by decide) (1 : Int32) (by decide) (by decide) (by decide) Q707 rfl
      · refine f_iload A617 at_33 (pc' := 35) rfl rfl ?_
        refine f_ifY A617 at_35 ((if0 _ _).trans (feq (by decide : ¬ (2 : Int32) = (0 : Int32))).2) (pc' := 66) (by decide) (by decide) ?_
        refine f_iload A617 at_66 (pc' := 68) rfl rfl ?_
        refine f_iconst A617 at_68 (pc' := 69) rfl 1 rfl ?_
        refine f_icY A617 at_69 (feq (by decide : ¬ (2 : Int32) = (1 : Int32))).2 (pc' := 153) (by decide) (by decide) ?_
        refine f_iload A617 at_153 (pc' := 155) rfl rfl ?_
        refine f_iconst A617 at_155 (pc' := 156) rfl 2 rfl ?_
        refine f_icN A617 at_156 (teq (by decide : (2 : Int32) = (2 : Int32))).2 (pc' := 159) rfl ?_
        refine f_new A617 at_159 (pc' := 162) rfl (wd hw 31 rfl) (wd hw 6 rfl) (wd hw 5 rfl) (by decide) (by decide) fun a708 T708 h708 g708 A708 E708 X708 D708 => ?_
        have z708 : n0 ≤ a708 := Nat.le_trans A617.sz (Nat.le_of_eq g708.symm)
        have y708 : h0.size ≤ a708 := Nat.le_trans Q615.1 (Nat.le_of_eq g708.symm)
        have Q709 : Keep h0 h708 [] := Q615.ext E708
        have s708 := Safe.ext E708 (A617.ch rfl).1 (Safe.new (Nat.le_of_eq g708.symm))
        refine f_dup A708 at_162 (pc' := 163) rfl rfl ?_
        refine f_lloadN A708 at_163 (pc' := 164) rfl rfl ?_
        refine f_iloadN A708 at_164 (pc' := 165) rfl rfl ?_
        refine f_bipush A708 at_165 (pc' := 167) rfl 7 rfl ?_
        refine f_iand A708 at_167 (pc' := 168) rfl (3 : Int32) hn8 ?_
        refine f_callS A708 at_168 (pc' := 171) rfl (wd hw 118 rfl) (wd hw 119 rfl) (wd hw 2 rfl) (wd hw 120 rfl) (by decide) pd19 [(.long bytes), (.int (3 : Int32))] [(.ref a708), (.ref a708)] rfl rfl rfl 2 (Nat.le_of_eq rfl) (CN.pay (W := 2) A708 (m_dc3 l Z a0 hw bytes d0 d1 d2 d3 d4 d5 d6 h708 n0 A708.old hd0 rd0 hd1 rd1 hd2 rd2 hd3 rd3 hd4 rd4 hd5 rd5 hd6 rd6) (wd hw 120 rfl) (wd hw 2 rfl) (by decide) (by decide)) (kc := 1) (ks := 3) (by decide) (by decide) all0 (fun _ => sf0) fun v710 T710 h710 L710 A710 K710 q710 => ?_
        have Q711 : Keep h0 h710 [] := Q709.trans K710 all0
        obtain ⟨b710, kA710, rfl, bg710, V710⟩ := q710
        show Wp pG e below _ T710 (mkF m 171 _ [(.ref b710), (.ref a708), (.ref a708)])
        have c712 := (X708.keep K710)
        have c713 := ((show Fld Z h708 a708 "java/lang/String" "value" "[B" .null from D708 (Or.inr (wd hw 8 rfl)) (ty := (.array .byte)) (by decide)).keep K710 nin0)
        have c714 := ((show Fld Z h708 a708 "java/lang/String" "coder" "B" (.int (0 : Int32)) from D708 (Or.inr (wd hw 9 rfl)) (ty := .byte) (by decide)).keep K710 nin0)
        have c716 := (Safe.keep K710 sf0 (A708.ch rfl).1 s708)
        refine f_callI A710 (a := a708) at_171 (pc' := 174) rfl rfl (wd hw 61 rfl) (wd hw 62 rfl) (wd hw 63 rfl) (by decide) pd17 [(.ref b710)] [(.ref a708)] rfl rfl rfl 1 (Nat.le_of_eq rfl) (payNew (W := 1) A710 hw (wd hw 6 rfl) (cs := [d0, d1, d2]) 3 z708 c712 c713 c714 V710 O2 P5 rfl rfl (by decide) (by decide) (lc (lat_of rd0) (lc (lat_of rd1) (lc (lat_of rd2) ln))) (by decide) (by decide)) (kc := 1) (ks := 3) (by decide) (by decide) (allS z708 all0) (fun _ => (sfS c716 sf0)) fun v715 T715 h715 L715 A715 K715 q715 => ?_
        have Q717 : Keep h0 h715 [] := Q711.trans K715 (allS (Or.inr y708) all0)
        obtain ⟨rfl, t715, tz715, tg715, tn715, G715⟩ := q715
        show Wp pG e below _ T715 (mkF m 174 _ [(.ref a708)])
        refine f_astore A715 at_174 (pc' := 176) rfl rfl (L' := #[.val (.int sel), .val (.int pos), .val (.int ch), .val (.long bytes), .second, .val (.int (1 : Int32)), .val (.int (2 : Int32)), .val (.ref w614), .val (.ref aD), .val (.int (4 : Int32)), .val (.ref a708), .unset, .unset, .unset, .unset]) rfl ?_
        refine f_aload A715 at_176 (pc' := 178) rfl rfl rfl ?_
        refine f_callS A715 at_178 (pc' := 181) rfl (wd hw 81 rfl) (wd hw 82 rfl) (wd hw 16 rfl) (wd hw 83 rfl) (by decide) pd18 [(.ref a708)] [] rfl rfl rfl 0 (Nat.le_of_eq rfl) (CN.pay (W := 0) A715 (m_fk l Z a0 hw aA aD aM aL vv a708 t715 [d0, d1, d2] (vOf aA aD aM aL [d0, d1, d2]) zc O2 P5 h715 n0 A715.old hV G715 rfl) (wd hw 83 rfl) (wd hw 16 rfl) (by decide) (by decide)) (kc := 1) (ks := 4) (by decide) (by decide) all0 (fun _ => sf0) fun v718 T718 h718 L718 A718 K718 q718 => ?_
        have Q719 : Keep h0 h718 [] := Q717.trans K718 all0
        obtain rfl := q718
        show Wp pG e below _ T718 (mkF m 181 _ [(vOf aA aD aM aL [d0, d1, d2])])
        refine f_aload A718 at_181 (pc' := 183) rfl rfl rfl ?_
        have c720 := (G715.keep K718 nin0 nin0)
        refine f_callSW A718 at_183 (pc' := 186) rfl (wd hw 125 rfl) (wd hw 126 rfl) (wd hw 2 rfl) (wd hw 127 rfl) (by decide) pd18 [(.ref a708)] [(vOf aA aD aM aL [d0, d1, d2])] rfl rfl rfl 1 (by show Value.category (vOf aA aD aM aL [d0, d1, d2]) + 0 ≤ 1; rw [cat_ref (vOf_ref _ _ _ _ _)]; exact Nat.le_refl _) (CW.pay (W := 1) A718 hEL (m_ref l Z a0 hw aA aD aM aL vv a708 t715 [d0, d1, d2] zc O2 P5 h718 n0 A718.old hEL hV c720) (wd hw 127 rfl) (wd hw 2 rfl) (by decide) (by decide) (fun _ q => nomatch q)) (kc := 8) (ks := 88) (by decide) (by decide) all0 fun v721 vm721 T721 h721 L721 A721 K721 C721 q721 => ?_
        have Q722 : Keep h0 h721 [] := Q719.trans K721 all0
        obtain rfl := q721
        show Wp pG e below _ T721 (mkF m 186 _ [(vOf aA aD aM aL [d0, d1, d2]), (vOf aA aD aM aL [d0, d1, d2])])
        refine f_acmp A721 (vOf_ref _ _ _ _ _) (vOf_ref _ _ _ _ _) at_186 true (decide_eq_true rfl) (by decide) (pc' := 189) (by decide) ?_
        refine f_iconst A721 at_189 (pc' := 190) rfl 1 rfl ?_
        refine f_goto A721 at_190 (pc' := 194) (by decide) (by decide) ?_
        exact f_retBW A721 hEL hlk hret at_194 (by decide) (1 : Int32) (by decide) (by decide) (by decide) Q722 rfl
      · refine f_iload A617 at_33 (pc' := 35) rfl rfl ?_
        refine f_ifY A617 at_35 ((if0 _ _).trans (feq (by decide : ¬ (2 : Int32) = (0 : Int32))).2) (pc' := 66) (by decide) (by decide) ?_
        refine f_iload A617 at_66 (pc' := 68) rfl rfl ?_
        refine f_iconst A617 at_68 (pc' := 69) rfl 1 rfl ?_
        refine f_icY A617 at_69 (feq (by decide : ¬ (2 : Int32) = (1 : Int32))).2 (pc' := 153) (by decide) (by decide) ?_
        refine f_iload A617 at_153 (pc' := 155) rfl rfl ?_
        refine f_iconst A617 at_155 (pc' := 156) rfl 2 rfl ?_
        refine f_icN A617 at_156 (teq (by decide : (2 : Int32) = (2 : Int32))).2 (pc' := 159) rfl ?_
        refine f_new A617 at_159 (pc' := 162) rfl (wd hw 31 rfl) (wd hw 6 rfl) (wd hw 5 rfl) (by decide) (by decide) fun a723 T723 h723 g723 A723 E723 X723 D723 => ?_
        have z723 : n0 ≤ a723 := Nat.le_trans A617.sz (Nat.le_of_eq g723.symm)
        have y723 : h0.size ≤ a723 := Nat.le_trans Q615.1 (Nat.le_of_eq g723.symm)
        have Q724 : Keep h0 h723 [] := Q615.ext E723
        have s723 := Safe.ext E723 (A617.ch rfl).1 (Safe.new (Nat.le_of_eq g723.symm))
        refine f_dup A723 at_162 (pc' := 163) rfl rfl ?_
        refine f_lloadN A723 at_163 (pc' := 164) rfl rfl ?_
        refine f_iloadN A723 at_164 (pc' := 165) rfl rfl ?_
        refine f_bipush A723 at_165 (pc' := 167) rfl 7 rfl ?_
        refine f_iand A723 at_167 (pc' := 168) rfl (4 : Int32) hn8 ?_
        refine f_callS A723 at_168 (pc' := 171) rfl (wd hw 118 rfl) (wd hw 119 rfl) (wd hw 2 rfl) (wd hw 120 rfl) (by decide) pd19 [(.long bytes), (.int (4 : Int32))] [(.ref a723), (.ref a723)] rfl rfl rfl 2 (Nat.le_of_eq rfl) (CN.pay (W := 2) A723 (m_dc4 l Z a0 hw bytes d0 d1 d2 d3 d4 d5 d6 h723 n0 A723.old hd0 rd0 hd1 rd1 hd2 rd2 hd3 rd3 hd4 rd4 hd5 rd5 hd6 rd6) (wd hw 120 rfl) (wd hw 2 rfl) (by decide) (by decide)) (kc := 1) (ks := 4) (by decide) (by decide) all0 (fun _ => sf0) fun v725 T725 h725 L725 A725 K725 q725 => ?_
        have Q726 : Keep h0 h725 [] := Q724.trans K725 all0
        obtain ⟨b725, kA725, rfl, bg725, V725⟩ := q725
        show Wp pG e below _ T725 (mkF m 171 _ [(.ref b725), (.ref a723), (.ref a723)])
        have c727 := (X723.keep K725)
        have c728 := ((show Fld Z h723 a723 "java/lang/String" "value" "[B" .null from D723 (Or.inr (wd hw 8 rfl)) (ty := (.array .byte)) (by decide)).keep K725 nin0)
        have c729 := ((show Fld Z h723 a723 "java/lang/String" "coder" "B" (.int (0 : Int32)) from D723 (Or.inr (wd hw 9 rfl)) (ty := .byte) (by decide)).keep K725 nin0)
        have c731 := (Safe.keep K725 sf0 (A723.ch rfl).1 s723)
        refine f_callI A725 (a := a723) at_171 (pc' := 174) rfl rfl (wd hw 61 rfl) (wd hw 62 rfl) (wd hw 63 rfl) (by decide) pd17 [(.ref b725)] [(.ref a723)] rfl rfl rfl 1 (Nat.le_of_eq rfl) (payNew (W := 1) A725 hw (wd hw 6 rfl) (cs := [d0, d1, d2, d3]) 4 z723 c727 c728 c729 V725 O2 P5 rfl rfl (by decide) (by decide) (lc (lat_of rd0) (lc (lat_of rd1) (lc (lat_of rd2) (lc (lat_of rd3) ln)))) (by decide) (by decide)) (kc := 1) (ks := 4) (by decide) (by decide) (allS z723 all0) (fun _ => (sfS c731 sf0)) fun v730 T730 h730 L730 A730 K730 q730 => ?_
        have Q732 : Keep h0 h730 [] := Q726.trans K730 (allS (Or.inr y723) all0)
        obtain ⟨rfl, t730, tz730, tg730, tn730, G730⟩ := q730
        show Wp pG e below _ T730 (mkF m 174 _ [(.ref a723)])
        refine f_astore A730 at_174 (pc' := 176) rfl rfl (L' := #[.val (.int sel), .val (.int pos), .val (.int ch), .val (.long bytes), .second, .val (.int (1 : Int32)), .val (.int (2 : Int32)), .val (.ref w614), .val (.ref aD), .val (.int (4 : Int32)), .val (.ref a723), .unset, .unset, .unset, .unset]) rfl ?_
        refine f_aload A730 at_176 (pc' := 178) rfl rfl rfl ?_
        refine f_callS A730 at_178 (pc' := 181) rfl (wd hw 81 rfl) (wd hw 82 rfl) (wd hw 16 rfl) (wd hw 83 rfl) (by decide) pd18 [(.ref a723)] [] rfl rfl rfl 0 (Nat.le_of_eq rfl) (CN.pay (W := 0) A730 (m_fk l Z a0 hw aA aD aM aL vv a723 t730 [d0, d1, d2, d3] (vOf aA aD aM aL [d0, d1, d2, d3]) zc O2 P5 h730 n0 A730.old hV G730 rfl) (wd hw 83 rfl) (wd hw 16 rfl) (by decide) (by decide)) (kc := 1) (ks := 4) (by decide) (by decide) all0 (fun _ => sf0) fun v733 T733 h733 L733 A733 K733 q733 => ?_
        have Q734 : Keep h0 h733 [] := Q732.trans K733 all0
        obtain rfl := q733
        show Wp pG e below _ T733 (mkF m 181 _ [(vOf aA aD aM aL [d0, d1, d2, d3])])
        refine f_aload A733 at_181 (pc' := 183) rfl rfl rfl ?_
        have c735 := (G730.keep K733 nin0 nin0)
        refine f_callSW A733 at_183 (pc' := 186) rfl (wd hw 125 rfl) (wd hw 126 rfl) (wd hw 2 rfl) (wd hw 127 rfl) (by decide) pd18 [(.ref a723)] [(vOf aA aD aM aL [d0, d1, d2, d3])] rfl rfl rfl 1 (by show Value.category (vOf aA aD aM aL [d0, d1, d2, d3]) + 0 ≤ 1; rw [cat_ref (vOf_ref _ _ _ _ _)]; exact Nat.le_refl _) (CW.pay (W := 1) A733 hEL (m_ref l Z a0 hw aA aD aM aL vv a723 t730 [d0, d1, d2, d3] zc O2 P5 h733 n0 A733.old hEL hV c735) (wd hw 127 rfl) (wd hw 2 rfl) (by decide) (by decide) (fun _ q => nomatch q)) (kc := 8) (ks := 88) (by decide) (by decide) all0 fun v736 vm736 T736 h736 L736 A736 K736 C736 q736 => ?_
        have Q737 : Keep h0 h736 [] := Q734.trans K736 all0
        obtain rfl := q736
        show Wp pG e below _ T736 (mkF m 186 _ [(vOf aA aD aM aL [d0, d1, d2, d3]), (vOf aA aD aM aL [d0, d1, d2, d3])])
        refine f_acmp A736 (vOf_ref _ _ _ _ _) (vOf_ref _ _ _ _ _) at_186 true (decide_eq_true rfl) (by decide) (pc' := 189) (by decide) ?_
        refine f_iconst A736 at_189 (pc' := 190) rfl 1 rfl ?_
        refine f_goto A736 at_190 (pc' := 194) (by decide) (by decide) ?_
        exact f_retBW A736 hEL hlk hret at_194 (by decide) (1 : Int32) (by decide) (by decide) (by decide) Q737 rfl
      · refine f_iload A617 at_33 (pc' := 35) rfl rfl ?_
        refine f_ifY A617 at_35 ((if0 _ _).trans (feq (by decide : ¬ (2 : Int32) = (0 : Int32))).2) (pc' := 66) (by decide) (by decide) ?_
        refine f_iload A617 at_66 (pc' := 68) rfl rfl ?_
        refine f_iconst A617 at_68 (pc' := 69) rfl 1 rfl ?_
        refine f_icY A617 at_69 (feq (by decide : ¬ (2 : Int32) = (1 : Int32))).2 (pc' := 153) (by decide) (by decide) ?_
        refine f_iload A617 at_153 (pc' := 155) rfl rfl ?_
        refine f_iconst A617 at_155 (pc' := 156) rfl 2 rfl ?_
        refine f_icN A617 at_156 (teq (by decide : (2 : Int32) = (2 : Int32))).2 (pc' := 159) rfl ?_
        refine f_new A617 at_159 (pc' := 162) rfl (wd hw 31 rfl) (wd hw 6 rfl) (wd hw 5 rfl) (by decide) (by decide) fun a738 T738 h738 g738 A738 E738 X738 D738 => ?_
        have z738 : n0 ≤ a738 := Nat.le_trans A617.sz (Nat.le_of_eq g738.symm)
        have y738 : h0.size ≤ a738 := Nat.le_trans Q615.1 (Nat.le_of_eq g738.symm)
        have Q739 : Keep h0 h738 [] := Q615.ext E738
        have s738 := Safe.ext E738 (A617.ch rfl).1 (Safe.new (Nat.le_of_eq g738.symm))
        refine f_dup A738 at_162 (pc' := 163) rfl rfl ?_
        refine f_lloadN A738 at_163 (pc' := 164) rfl rfl ?_
        refine f_iloadN A738 at_164 (pc' := 165) rfl rfl ?_
        refine f_bipush A738 at_165 (pc' := 167) rfl 7 rfl ?_
        refine f_iand A738 at_167 (pc' := 168) rfl (5 : Int32) hn8 ?_
        refine f_callS A738 at_168 (pc' := 171) rfl (wd hw 118 rfl) (wd hw 119 rfl) (wd hw 2 rfl) (wd hw 120 rfl) (by decide) pd19 [(.long bytes), (.int (5 : Int32))] [(.ref a738), (.ref a738)] rfl rfl rfl 2 (Nat.le_of_eq rfl) (CN.pay (W := 2) A738 (m_dc5 l Z a0 hw bytes d0 d1 d2 d3 d4 d5 d6 h738 n0 A738.old hd0 rd0 hd1 rd1 hd2 rd2 hd3 rd3 hd4 rd4 hd5 rd5 hd6 rd6) (wd hw 120 rfl) (wd hw 2 rfl) (by decide) (by decide)) (kc := 1) (ks := 5) (by decide) (by decide) all0 (fun _ => sf0) fun v740 T740 h740 L740 A740 K740 q740 => ?_
        have Q741 : Keep h0 h740 [] := Q739.trans K740 all0
        obtain ⟨b740, kA740, rfl, bg740, V740⟩ := q740
        show Wp pG e below _ T740 (mkF m 171 _ [(.ref b740), (.ref a738), (.ref a738)])
        have c742 := (X738.keep K740)
        have c743 := ((show Fld Z h738 a738 "java/lang/String" "value" "[B" .null from D738 (Or.inr (wd hw 8 rfl)) (ty := (.array .byte)) (by decide)).keep K740 nin0)
        have c744 := ((show Fld Z h738 a738 "java/lang/String" "coder" "B" (.int (0 : Int32)) from D738 (Or.inr (wd hw 9 rfl)) (ty := .byte) (by decide)).keep K740 nin0)
        have c746 := (Safe.keep K740 sf0 (A738.ch rfl).1 s738)
        refine f_callI A740 (a := a738) at_171 (pc' := 174) rfl rfl (wd hw 61 rfl) (wd hw 62 rfl) (wd hw 63 rfl) (by decide) pd17 [(.ref b740)] [(.ref a738)] rfl rfl rfl 1 (Nat.le_of_eq rfl) (payNew (W := 1) A740 hw (wd hw 6 rfl) (cs := [d0, d1, d2, d3, d4]) 5 z738 c742 c743 c744 V740 O2 P5 rfl rfl (by decide) (by decide) (lc (lat_of rd0) (lc (lat_of rd1) (lc (lat_of rd2) (lc (lat_of rd3) (lc (lat_of rd4) ln))))) (by decide) (by decide)) (kc := 1) (ks := 5) (by decide) (by decide) (allS z738 all0) (fun _ => (sfS c746 sf0)) fun v745 T745 h745 L745 A745 K745 q745 => ?_
        have Q747 : Keep h0 h745 [] := Q741.trans K745 (allS (Or.inr y738) all0)
        obtain ⟨rfl, t745, tz745, tg745, tn745, G745⟩ := q745
        show Wp pG e below _ T745 (mkF m 174 _ [(.ref a738)])
        refine f_astore A745 at_174 (pc' := 176) rfl rfl (L' := #[.val (.int sel), .val (.int pos), .val (.int ch), .val (.long bytes), .second, .val (.int (1 : Int32)), .val (.int (2 : Int32)), .val (.ref w614), .val (.ref aD), .val (.int (4 : Int32)), .val (.ref a738), .unset, .unset, .unset, .unset]) rfl ?_
        refine f_aload A745 at_176 (pc' := 178) rfl rfl rfl ?_
        refine f_callS A745 at_178 (pc' := 181) rfl (wd hw 81 rfl) (wd hw 82 rfl) (wd hw 16 rfl) (wd hw 83 rfl) (by decide) pd18 [(.ref a738)] [] rfl rfl rfl 0 (Nat.le_of_eq rfl) (CN.pay (W := 0) A745 (m_fk l Z a0 hw aA aD aM aL vv a738 t745 [d0, d1, d2, d3, d4] (vOf aA aD aM aL [d0, d1, d2, d3, d4]) zc O2 P5 h745 n0 A745.old hV G745 rfl) (wd hw 83 rfl) (wd hw 16 rfl) (by decide) (by decide)) (kc := 1) (ks := 4) (by decide) (by decide) all0 (fun _ => sf0) fun v748 T748 h748 L748 A748 K748 q748 => ?_
        have Q749 : Keep h0 h748 [] := Q747.trans K748 all0
        obtain rfl := q748
        show Wp pG e below _ T748 (mkF m 181 _ [(vOf aA aD aM aL [d0, d1, d2, d3, d4])])
        refine f_aload A748 at_181 (pc' := 183) rfl rfl rfl ?_
        have c750 := (G745.keep K748 nin0 nin0)
        refine f_callSW A748 at_183 (pc' := 186) rfl (wd hw 125 rfl) (wd hw 126 rfl) (wd hw 2 rfl) (wd hw 127 rfl) (by decide) pd18 [(.ref a738)] [(vOf aA aD aM aL [d0, d1, d2, d3, d4])] rfl rfl rfl 1 (by show Value.category (vOf aA aD aM aL [d0, d1, d2, d3, d4]) + 0 ≤ 1; rw [cat_ref (vOf_ref _ _ _ _ _)]; exact Nat.le_refl _) (CW.pay (W := 1) A748 hEL (m_ref l Z a0 hw aA aD aM aL vv a738 t745 [d0, d1, d2, d3, d4] zc O2 P5 h748 n0 A748.old hEL hV c750) (wd hw 127 rfl) (wd hw 2 rfl) (by decide) (by decide) (fun _ q => nomatch q)) (kc := 8) (ks := 88) (by decide) (by decide) all0 fun v751 vm751 T751 h751 L751 A751 K751 C751 q751 => ?_
        have Q752 : Keep h0 h751 [] := Q749.trans K751 all0
        obtain rfl := q751
        show Wp pG e below _ T751 (mkF m 186 _ [(vOf aA aD aM aL [d0, d1, d2, d3, d4]), (vOf aA aD aM aL [d0, d1, d2, d3, d4])])
        refine f_acmp A751 (vOf_ref _ _ _ _ _) (vOf_ref _ _ _ _ _) at_186 true (decide_eq_true rfl) (by decide) (pc' := 189) (by decide) ?_
        refine f_iconst A751 at_189 (pc' := 190) rfl 1 rfl ?_
        refine f_goto A751 at_190 (pc' := 194) (by decide) (by decide) ?_
        exact f_retBW A751 hEL hlk hret at_194 (by decide) (1 : Int32) (by decide) (by decide) (by decide) Q752 rfl
      · refine f_iload A617 at_33 (pc' := 35) rfl rfl ?_
        refine f_ifY A617 at_35 ((if0 _ _).trans (feq (by decide : ¬ (2 : Int32) = (0 : Int32))).2) (pc' := 66) (by decide) (by decide) ?_
        refine f_iload A617 at_66 (pc' := 68) rfl rfl ?_
        refine f_iconst A617 at_68 (pc' := 69) rfl 1 rfl ?_
        refine f_icY A617 at_69 (feq (by decide : ¬ (2 : Int32) = (1 : Int32))).2 (pc' := 153) (by decide) (by decide) ?_
        refine f_iload A617 at_153 (pc' := 155) rfl rfl ?_
        refine f_iconst A617 at_155 (pc' := 156) rfl 2 rfl ?_
        refine f_icN A617 at_156 (teq (by decide : (2 : Int32) = (2 : Int32))).2 (pc' := 159) rfl ?_
        refine f_new A617 at_159 (pc' := 162) rfl (wd hw 31 rfl) (wd hw 6 rfl) (wd hw 5 rfl) (by decide) (by decide) fun a753 T753 h753 g753 A753 E753 X753 D753 => ?_
        have z753 : n0 ≤ a753 := Nat.le_trans A617.sz (Nat.le_of_eq g753.symm)
        have y753 : h0.size ≤ a753 := Nat.le_trans Q615.1 (Nat.le_of_eq g753.symm)
        have Q754 : Keep h0 h753 [] := Q615.ext E753
        have s753 := Safe.ext E753 (A617.ch rfl).1 (Safe.new (Nat.le_of_eq g753.symm))
        refine f_dup A753 at_162 (pc' := 163) rfl rfl ?_
        refine f_lloadN A753 at_163 (pc' := 164) rfl rfl ?_
        refine f_iloadN A753 at_164 (pc' := 165) rfl rfl ?_
        refine f_bipush A753 at_165 (pc' := 167) rfl 7 rfl ?_
        refine f_iand A753 at_167 (pc' := 168) rfl (6 : Int32) hn8 ?_
        refine f_callS A753 at_168 (pc' := 171) rfl (wd hw 118 rfl) (wd hw 119 rfl) (wd hw 2 rfl) (wd hw 120 rfl) (by decide) pd19 [(.long bytes), (.int (6 : Int32))] [(.ref a753), (.ref a753)] rfl rfl rfl 2 (Nat.le_of_eq rfl) (CN.pay (W := 2) A753 (m_dc6 l Z a0 hw bytes d0 d1 d2 d3 d4 d5 d6 h753 n0 A753.old hd0 rd0 hd1 rd1 hd2 rd2 hd3 rd3 hd4 rd4 hd5 rd5 hd6 rd6) (wd hw 120 rfl) (wd hw 2 rfl) (by decide) (by decide)) (kc := 1) (ks := 6) (by decide) (by decide) all0 (fun _ => sf0) fun v755 T755 h755 L755 A755 K755 q755 => ?_
        have Q756 : Keep h0 h755 [] := Q754.trans K755 all0
        obtain ⟨b755, kA755, rfl, bg755, V755⟩ := q755
        show Wp pG e below _ T755 (mkF m 171 _ [(.ref b755), (.ref a753), (.ref a753)])
        have c757 := (X753.keep K755)
        have c758 := ((show Fld Z h753 a753 "java/lang/String" "value" "[B" .null from D753 (Or.inr (wd hw 8 rfl)) (ty := (.array .byte)) (by decide)).keep K755 nin0)
        have c759 := ((show Fld Z h753 a753 "java/lang/String" "coder" "B" (.int (0 : Int32)) from D753 (Or.inr (wd hw 9 rfl)) (ty := .byte) (by decide)).keep K755 nin0)
        have c761 := (Safe.keep K755 sf0 (A753.ch rfl).1 s753)
        refine f_callI A755 (a := a753) at_171 (pc' := 174) rfl rfl (wd hw 61 rfl) (wd hw 62 rfl) (wd hw 63 rfl) (by decide) pd17 [(.ref b755)] [(.ref a753)] rfl rfl rfl 1 (Nat.le_of_eq rfl) (payNew (W := 1) A755 hw (wd hw 6 rfl) (cs := [d0, d1, d2, d3, d4, d5]) 6 z753 c757 c758 c759 V755 O2 P5 rfl rfl (by decide) (by decide) (lc (lat_of rd0) (lc (lat_of rd1) (lc (lat_of rd2) (lc (lat_of rd3) (lc (lat_of rd4) (lc (lat_of rd5) ln)))))) (by decide) (by decide)) (kc := 1) (ks := 6) (by decide) (by decide) (allS z753 all0) (fun _ => (sfS c761 sf0)) fun v760 T760 h760 L760 A760 K760 q760 => ?_
        have Q762 : Keep h0 h760 [] := Q756.trans K760 (allS (Or.inr y753) all0)
        obtain ⟨rfl, t760, tz760, tg760, tn760, G760⟩ := q760
        show Wp pG e below _ T760 (mkF m 174 _ [(.ref a753)])
        refine f_astore A760 at_174 (pc' := 176) rfl rfl (L' := #[.val (.int sel), .val (.int pos), .val (.int ch), .val (.long bytes), .second, .val (.int (1 : Int32)), .val (.int (2 : Int32)), .val (.ref w614), .val (.ref aD), .val (.int (4 : Int32)), .val (.ref a753), .unset, .unset, .unset, .unset]) rfl ?_
        refine f_aload A760 at_176 (pc' := 178) rfl rfl rfl ?_
        refine f_callS A760 at_178 (pc' := 181) rfl (wd hw 81 rfl) (wd hw 82 rfl) (wd hw 16 rfl) (wd hw 83 rfl) (by decide) pd18 [(.ref a753)] [] rfl rfl rfl 0 (Nat.le_of_eq rfl) (CN.pay (W := 0) A760 (m_fk l Z a0 hw aA aD aM aL vv a753 t760 [d0, d1, d2, d3, d4, d5] (vOf aA aD aM aL [d0, d1, d2, d3, d4, d5]) zc O2 P5 h760 n0 A760.old hV G760 rfl) (wd hw 83 rfl) (wd hw 16 rfl) (by decide) (by decide)) (kc := 1) (ks := 4) (by decide) (by decide) all0 (fun _ => sf0) fun v763 T763 h763 L763 A763 K763 q763 => ?_
        have Q764 : Keep h0 h763 [] := Q762.trans K763 all0
        obtain rfl := q763
        show Wp pG e below _ T763 (mkF m 181 _ [(vOf aA aD aM aL [d0, d1, d2, d3, d4, d5])])
        refine f_aload A763 at_181 (pc' := 183) rfl rfl rfl ?_
        have c765 := (G760.keep K763 nin0 nin0)
        refine f_callSW A763 at_183 (pc' := 186) rfl (wd hw 125 rfl) (wd hw 126 rfl) (wd hw 2 rfl) (wd hw 127 rfl) (by decide) pd18 [(.ref a753)] [(vOf aA aD aM aL [d0, d1, d2, d3, d4, d5])] rfl rfl rfl 1 (by show Value.category (vOf aA aD aM aL [d0, d1, d2, d3, d4, d5]) + 0 ≤ 1; rw [cat_ref (vOf_ref _ _ _ _ _)]; exact Nat.le_refl _) (CW.pay (W := 1) A763 hEL (m_ref l Z a0 hw aA aD aM aL vv a753 t760 [d0, d1, d2, d3, d4, d5] zc O2 P5 h763 n0 A763.old hEL hV c765) (wd hw 127 rfl) (wd hw 2 rfl) (by decide) (by decide) (fun _ q => nomatch q)) (kc := 8) (ks := 88) (by decide) (by decide) all0 fun v766 vm766 T766 h766 L766 A766 K766 C766 q766 => ?_
        have Q767 : Keep h0 h766 [] := Q764.trans K766 all0
        obtain rfl := q766
        show Wp pG e below _ T766 (mkF m 186 _ [(vOf aA aD aM aL [d0, d1, d2, d3, d4, d5]), (vOf aA aD aM aL [d0, d1, d2, d3, d4, d5])])
        refine f_acmp A766 (vOf_ref _ _ _ _ _) (vOf_ref _ _ _ _ _) at_186 true (decide_eq_true rfl) (by decide) (pc' := 189) (by decide) ?_
        refine f_iconst A766 at_189 (pc' := 190) rfl 1 rfl ?_
        refine f_goto A766 at_190 (pc' := 194) (by decide) (by decide) ?_
        exact f_retBW A766 hEL hlk hret at_194 (by decide) (1 : Int32) (by decide) (by decide) (by decide) Q767 rfl
      · refine f_iload A617 at_33 (pc' := 35) rfl rfl ?_
        refine f_ifY A617 at_35 ((if0 _ _).trans (feq (by decide : ¬ (2 : Int32) = (0 : Int32))).2) (pc' := 66) (by decide) (by decide) ?_
        refine f_iload A617 at_66 (pc' := 68) rfl rfl ?_
        refine f_iconst A617 at_68 (pc' := 69) rfl 1 rfl ?_
        refine f_icY A617 at_69 (feq (by decide : ¬ (2 : Int32) = (1 : Int32))).2 (pc' := 153) (by decide) (by decide) ?_
        refine f_iload A617 at_153 (pc' := 155) rfl rfl ?_
        refine f_iconst A617 at_155 (pc' := 156) rfl 2 rfl ?_
        refine f_icN A617 at_156 (teq (by decide : (2 : Int32) = (2 : Int32))).2 (pc' := 159) rfl ?_
        refine f_new A617 at_159 (pc' := 162) rfl (wd hw 31 rfl) (wd hw 6 rfl) (wd hw 5 rfl) (by decide) (by decide) fun a768 T768 h768 g768 A768 E768 X768 D768 => ?_
        have z768 : n0 ≤ a768 := Nat.le_trans A617.sz (Nat.le_of_eq g768.symm)
        have y768 : h0.size ≤ a768 := Nat.le_trans Q615.1 (Nat.le_of_eq g768.symm)
        have Q769 : Keep h0 h768 [] := Q615.ext E768
        have s768 := Safe.ext E768 (A617.ch rfl).1 (Safe.new (Nat.le_of_eq g768.symm))
        refine f_dup A768 at_162 (pc' := 163) rfl rfl ?_
        refine f_lloadN A768 at_163 (pc' := 164) rfl rfl ?_
        refine f_iloadN A768 at_164 (pc' := 165) rfl rfl ?_
        refine f_bipush A768 at_165 (pc' := 167) rfl 7 rfl ?_
        refine f_iand A768 at_167 (pc' := 168) rfl (7 : Int32) hn8 ?_
        refine f_callS A768 at_168 (pc' := 171) rfl (wd hw 118 rfl) (wd hw 119 rfl) (wd hw 2 rfl) (wd hw 120 rfl) (by decide) pd19 [(.long bytes), (.int (7 : Int32))] [(.ref a768), (.ref a768)] rfl rfl rfl 2 (Nat.le_of_eq rfl) (CN.pay (W := 2) A768 (m_dc7 l Z a0 hw bytes d0 d1 d2 d3 d4 d5 d6 h768 n0 A768.old hd0 rd0 hd1 rd1 hd2 rd2 hd3 rd3 hd4 rd4 hd5 rd5 hd6 rd6) (wd hw 120 rfl) (wd hw 2 rfl) (by decide) (by decide)) (kc := 1) (ks := 7) (by decide) (by decide) all0 (fun _ => sf0) fun v770 T770 h770 L770 A770 K770 q770 => ?_
        have Q771 : Keep h0 h770 [] := Q769.trans K770 all0
        obtain ⟨b770, kA770, rfl, bg770, V770⟩ := q770
        show Wp pG e below _ T770 (mkF m 171 _ [(.ref b770), (.ref a768), (.ref a768)])
        have c772 := (X768.keep K770)
        have c773 := ((show Fld Z h768 a768 "java/lang/String" "value" "[B" .null from D768 (Or.inr (wd hw 8 rfl)) (ty := (.array .byte)) (by decide)).keep K770 nin0)
        have c774 := ((show Fld Z h768 a768 "java/lang/String" "coder" "B" (.int (0 : Int32)) from D768 (Or.inr (wd hw 9 rfl)) (ty := .byte) (by decide)).keep K770 nin0)
        have c776 := (Safe.keep K770 sf0 (A768.ch rfl).1 s768)
        refine f_callI A770 (a := a768) at_171 (pc' := 174) rfl rfl (wd hw 61 rfl) (wd hw 62 rfl) (wd hw 63 rfl) (by decide) pd17 [(.ref b770)] [(.ref a768)] rfl rfl rfl 1 (Nat.le_of_eq rfl) (payNew (W := 1) A770 hw (wd hw 6 rfl) (cs := [d0, d1, d2, d3, d4, d5, d6]) 7 z768 c772 c773 c774 V770 O2 P5 rfl rfl (by decide) (by decide) (lc (lat_of rd0) (lc (lat_of rd1) (lc (lat_of rd2) (lc (lat_of rd3) (lc (lat_of rd4) (lc (lat_of rd5) (lc (lat_of rd6) ln))))))) (by decide) (by decide)) (kc := 1) (ks := 7) (by decide) (by decide) (allS z768 all0) (fun _ => (sfS c776 sf0)) fun v775 T775 h775 L775 A775 K775 q775 => ?_
        have Q777 : Keep h0 h775 [] := Q771.trans K775 (allS (Or.inr y768) all0)
        obtain ⟨rfl, t775, tz775, tg775, tn775, G775⟩ := q775
        show Wp pG e below _ T775 (mkF m 174 _ [(.ref a768)])
        refine f_astore A775 at_174 (pc' := 176) rfl rfl (L' := #[.val (.int sel), .val (.int pos), .val (.int ch), .val (.long bytes), .second, .val (.int (1 : Int32)), .val (.int (2 : Int32)), .val (.ref w614), .val (.ref aD), .val (.int (4 : Int32)), .val (.ref a768), .unset, .unset, .unset, .unset]) rfl ?_
        refine f_aload A775 at_176 (pc' := 178) rfl rfl rfl ?_
        refine f_callS A775 at_178 (pc' := 181) rfl (wd hw 81 rfl) (wd hw 82 rfl) (wd hw 16 rfl) (wd hw 83 rfl) (by decide) pd18 [(.ref a768)] [] rfl rfl rfl 0 (Nat.le_of_eq rfl) (CN.pay (W := 0) A775 (m_fk l Z a0 hw aA aD aM aL vv a768 t775 [d0, d1, d2, d3, d4, d5, d6] (vOf aA aD aM aL [d0, d1, d2, d3, d4, d5, d6]) zc O2 P5 h775 n0 A775.old hV G775 rfl) (wd hw 83 rfl) (wd hw 16 rfl) (by decide) (by decide)) (kc := 1) (ks := 4) (by decide) (by decide) all0 (fun _ => sf0) fun v778 T778 h778 L778 A778 K778 q778 => ?_
        have Q779 : Keep h0 h778 [] := Q777.trans K778 all0
        obtain rfl := q778
        show Wp pG e below _ T778 (mkF m 181 _ [(vOf aA aD aM aL [d0, d1, d2, d3, d4, d5, d6])])
        refine f_aload A778 at_181 (pc' := 183) rfl rfl rfl ?_
        have c780 := (G775.keep K778 nin0 nin0)
        refine f_callSW A778 at_183 (pc' := 186) rfl (wd hw 125 rfl) (wd hw 126 rfl) (wd hw 2 rfl) (wd hw 127 rfl) (by decide) pd18 [(.ref a768)] [(vOf aA aD aM aL [d0, d1, d2, d3, d4, d5, d6])] rfl rfl rfl 1 (by show Value.category (vOf aA aD aM aL [d0, d1, d2, d3, d4, d5, d6]) + 0 ≤ 1; rw [cat_ref (vOf_ref _ _ _ _ _)]; exact Nat.le_refl _) (CW.pay (W := 1) A778 hEL (m_ref l Z a0 hw aA aD aM aL vv a768 t775 [d0, d1, d2, d3, d4, d5, d6] zc O2 P5 h778 n0 A778.old hEL hV c780) (wd hw 127 rfl) (wd hw 2 rfl) (by decide) (by decide) (fun _ q => nomatch q)) (kc := 8) (ks := 88) (by decide) (by decide) all0 fun v781 vm781 T781 h781 L781 A781 K781 C781 q781 => ?_
        have Q782 : Keep h0 h781 [] := Q779.trans K781 all0
        obtain rfl := q781
        show Wp pG e below _ T781 (mkF m 186 _ [(vOf aA aD aM aL [d0, d1, d2, d3, d4, d5, d6]), (vOf aA aD aM aL [d0, d1, d2, d3, d4, d5, d6])])
        refine f_acmp A781 (vOf_ref _ _ _ _ _) (vOf_ref _ _ _ _ _) at_186 true (decide_eq_true rfl) (by decide) (pc' := 189) (by decide) ?_
        refine f_iconst A781 at_189 (pc' := 190) rfl 1 rfl ?_
        refine f_goto A781 at_190 (pc' := 194) (by decide) (by decide) ?_
        exact f_retBW A781 hEL hlk hret at_194 (by decide) (1 : Int32) (by decide) (by decide) (by decide) Q782 rfl
    · refine f_iload A617 at_33 (pc' := 35) rfl rfl ?_
      refine f_ifY A617 at_35 ((if0 _ _).trans (feq (by decide : ¬ (3 : Int32) = (0 : Int32))).2) (pc' := 66) (by decide) (by decide) ?_
      refine f_iload A617 at_66 (pc' := 68) rfl rfl ?_
      refine f_iconst A617 at_68 (pc' := 69) rfl 1 rfl ?_
      refine f_icY A617 at_69 (feq (by decide : ¬ (3 : Int32) = (1 : Int32))).2 (pc' := 153) (by decide) (by decide) ?_
      refine f_iload A617 at_153 (pc' := 155) rfl rfl ?_
      refine f_iconst A617 at_155 (pc' := 156) rfl 2 rfl ?_
      refine f_icY A617 at_156 (feq (by decide : ¬ (3 : Int32) = (2 : Int32))).2 (pc' := 195) (by decide) (by decide) ?_
      refine f_iloadN A617 at_195 (pc' := 196) rfl rfl ?_
      refine f_iconst A617 at_196 (pc' := 197) rfl 1 rfl ?_
      refine f_iand A617 at_197 (pc' := 198) rfl (ch &&& (1 : Int32)) rfl ?_
      by_cases qb : ch &&& 1 = 0
      · refine f_ifN A617 at_198 ((if0 _ _).trans (teq qb).2) (pc' := 201) rfl ?_
        refine f_aconst_null A617 at_201 (pc' := 202) rfl ?_
        refine f_callS A617 at_202 (pc' := 205) rfl (wd hw 81 rfl) (wd hw 82 rfl) (wd hw 16 rfl) (wd hw 83 rfl) (by decide) pd18 [.null] [] rfl rfl rfl 0 (Nat.le_of_eq rfl) (CN.pay (W := 0) A617 (m_fkN l Z a0 hw aA aD aM aL vv h614 n0 A617.old hV) (wd hw 83 rfl) (wd hw 16 rfl) (by decide) (by decide)) (kc := 1) (ks := 4) (by decide) (by decide) all0 (fun _ => sf0) fun v783 T783 h783 L783 A783 K783 q783 => ?_
        have Q784 : Keep h0 h783 [] := Q615.trans K783 all0
        obtain rfl := q783
        show Wp pG e below _ T783 (mkF m 205 _ [.null])
        refine f_nonN A783 at_205 (pc' := 208) rfl ?_
        refine f_iconst A783 at_208 (pc' := 209) rfl 1 rfl ?_
        refine f_goto A783 at_209 (pc' := 213) (by decide) (by decide) ?_
        exact f_retBW A783 hEL hlk hret at_213 (by decide) (1 : Int32) (by decide) (by decide) (by decide) Q784 rfl
      · refine f_ifY A617 at_198 ((if0 _ _).trans (feq qb).2) (pc' := 214) (by decide) (by decide) ?_
        refine f_aload A617 at_214 (pc' := 216) rfl rfl rfl ?_
        refine f_iload A617 at_216 (pc' := 218) rfl rfl ?_
        refine f_iconst A617 at_218 (pc' := 219) rfl 1 rfl ?_
        refine f_iadd A617 at_219 (pc' := 220) rfl (5 : Int32) (by decide) ?_
        refine f_callS A617 at_220 (pc' := 223) rfl (wd hw 32 rfl) (wd hw 33 rfl) (wd hw 2 rfl) (wd hw 34 rfl) (by decide) pd16 [(.ref w614), (.int (5 : Int32))] [] rfl rfl rfl 0 (Nat.le_of_eq rfl) (CN.pay (W := 0) A617 (m_ck11 l Z a0 hw w614 u614 zc O2 P5 fm O4 rG3 h614 n0 A617.old G614) (wd hw 34 rfl) (wd hw 2 rfl) (by decide) (by decide)) (kc := 1) (ks := 5) (by decide) (by decide) all0 (fun _ => sf0) fun v785 T785 h785 L785 A785 K785 q785 => ?_
        have Q786 : Keep h0 h785 [] := Q615.trans K785 all0
        obtain ⟨b785, kA785, rfl, bg785, V785⟩ := q785
        show Wp pG e below _ T785 (mkF m 223 _ [(.ref b785)])
        refine f_astore A785 at_223 (pc' := 225) rfl rfl (L' := #[.val (.int sel), .val (.int pos), .val (.int ch), .val (.long bytes), .second, .val (.int (1 : Int32)), .val (.int (3 : Int32)), .val (.ref w614), .val (.ref aD), .val (.int (4 : Int32)), .val (.ref b785), .unset, .unset, .unset, .unset]) rfl ?_
        refine f_aload A785 at_225 (pc' := 227) rfl rfl rfl ?_
        refine f_iload A785 at_227 (pc' := 229) rfl rfl ?_
        refine f_iloadN A785 at_229 (pc' := 230) rfl rfl ?_
        refine f_iconst A785 at_230 (pc' := 231) rfl 1 rfl ?_
        refine f_iushr A785 at_231 (pc' := 232) rfl ((ch.toUInt32 >>> ((1 : Int32) &&& 31).toUInt32).toInt32) rfl ?_
        refine f_i2c A785 at_232 (pc' := 233) rfl c3 hc3 ?_
        refine f_castore A785 at_233 (pc' := 234) rfl V785 ⟨by decide, by decide⟩ 4 (by decide) (Nat.le_of_ble_eq_true rfl) c3 (nar_id rc3) (vs' := [(.int (100 : Int32)), (.int (101 : Int32)), (.int (110 : Int32)), (.int (121 : Int32)), (.int c3)]) rfl (Nat.le_trans A617.sz bg785) (fun _ => (Safe.arv A785.hZ.alike V785 (by decide))) fun T787 h787 A787 K787 V787 => ?_
        have Q788 : Keep h0 h787 [] := Q786.trans K787 (allS (Or.inr (Nat.le_trans Q615.1 bg785)) all0)
        by_cases q8 : (255 : Int32) < c3
        · refine f_new A787 at_234 (pc' := 237) rfl (wd hw 31 rfl) (wd hw 6 rfl) (wd hw 5 rfl) (by decide) (by decide) fun a789 T789 h789 g789 A789 E789 X789 D789 => ?_
          have z789 : n0 ≤ a789 := Nat.le_trans A787.sz (Nat.le_of_eq g789.symm)
          have y789 : h0.size ≤ a789 := Nat.le_trans Q788.1 (Nat.le_of_eq g789.symm)
          have Q790 : Keep h0 h789 [] := Q788.ext E789
          have s789 := Safe.ext E789 (A787.ch rfl).1 (Safe.new (Nat.le_of_eq g789.symm))
          refine f_dup A789 at_237 (pc' := 238) rfl rfl ?_
          refine f_aload A789 at_238 (pc' := 240) rfl rfl rfl ?_
          have c791 := (V787.ext E789)
          refine f_callI A789 (a := a789) at_240 (pc' := 243) rfl rfl (wd hw 61 rfl) (wd hw 62 rfl) (wd hw 63 rfl) (by decide) pd17 [(.ref b785)] [(.ref a789)] rfl rfl rfl 1 (Nat.le_of_eq rfl) (CN.pay (W := 1) A789 (m_new1W l Z a0 hw a789 b785 kA785 5 [(100 : Int32), (101 : Int32), (110 : Int32), (121 : Int32), c3] (.int 0) 4 Oa Oh Ol zc O2 P5 h789 n0 A789.old X789 (show Fld Z h789 a789 "java/lang/String" "value" "[B" .null from D789 (Or.inr (wd hw 8 rfl)) (ty := (.array .byte)) (by decide)) (show Fld Z h789 a789 "java/lang/String" "coder" "B" (.int (0 : Int32)) from D789 (Or.inr (wd hw 9 rfl)) (ty := .byte) (by decide)) z789 c791 rfl (by decide) (by decide) (hpreK (L := [(100 : Int32), (101 : Int32), (110 : Int32), (121 : Int32)]) (by decide)) q8 (lc (by decide) (lc (by decide) (lc (by decide) (lc (by decide) (lc (c16 rc3) ln)))))) (wd hw 63 rfl) (wd hw 5 rfl) (by decide) (by decide)) (kc := 2) (ks := 108) (by decide) (by decide) (allS z789 all0) (fun _ => (sfS s789 sf0)) fun v792 T792 h792 L792 A792 K792 q792 => ?_
          have Q793 : Keep h0 h792 [] := Q790.trans K792 (allS (Or.inr y789) all0)
          obtain ⟨rfl, t792, tz792, tg792, tn792, G792⟩ := q792
          show Wp pG e below _ T792 (mkF m 243 _ [(.ref a789)])
          refine f_callS A792 at_243 (pc' := 246) rfl (wd hw 81 rfl) (wd hw 82 rfl) (wd hw 16 rfl) (wd hw 83 rfl) (by decide) pd18 [(.ref a789)] [] rfl rfl rfl 0 (Nat.le_of_eq rfl) (CN.pay (W := 0) A792 (m_fk l Z a0 hw aA aD aM aL vv a789 t792 [(100 : Int32), (101 : Int32), (110 : Int32), (121 : Int32), c3] .null zc O2 P5 h792 n0 A792.old hV G792 app_no1) (wd hw 83 rfl) (wd hw 16 rfl) (by decide) (by decide)) (kc := 1) (ks := 4) (by decide) (by decide) all0 (fun _ => sf0) fun v794 T794 h794 L794 A794 K794 q794 => ?_
          have Q795 : Keep h0 h794 [] := Q793.trans K794 all0
          obtain rfl := q794
          show Wp pG e below _ T794 (mkF m 246 _ [.null])
          refine f_nonN A794 at_246 (pc' := 249) rfl ?_
          refine f_iconst A794 at_249 (pc' := 250) rfl 1 rfl ?_
          refine f_goto A794 at_250 (pc' := 254) (by decide) (by decide) ?_
          exact f_retBW A794 hEL hlk hret at_254 (by decide) (1 : Int32) (by decide) (by decide) (by decide) Q795 rfl
        · refine f_new A787 at_234 (pc' := 237) rfl (wd hw 31 rfl) (wd hw 6 rfl) (wd hw 5 rfl) (by decide) (by decide) fun a796 T796 h796 g796 A796 E796 X796 D796 => ?_
          have z796 : n0 ≤ a796 := Nat.le_trans A787.sz (Nat.le_of_eq g796.symm)
          have y796 : h0.size ≤ a796 := Nat.le_trans Q788.1 (Nat.le_of_eq g796.symm)
          have Q797 : Keep h0 h796 [] := Q788.ext E796
          have s796 := Safe.ext E796 (A787.ch rfl).1 (Safe.new (Nat.le_of_eq g796.symm))
          refine f_dup A796 at_237 (pc' := 238) rfl rfl ?_
          refine f_aload A796 at_238 (pc' := 240) rfl rfl rfl ?_
          have c798 := (V787.ext E796)
          refine f_callI A796 (a := a796) at_240 (pc' := 243) rfl rfl (wd hw 61 rfl) (wd hw 62 rfl) (wd hw 63 rfl) (by decide) pd17 [(.ref b785)] [(.ref a796)] rfl rfl rfl 1 (Nat.le_of_eq rfl) (payNew (W := 1) A796 hw (wd hw 6 rfl) (cs := [(100 : Int32), (101 : Int32), (110 : Int32), (121 : Int32), c3]) 5 z796 X796 (show Fld Z h796 a796 "java/lang/String" "value" "[B" .null from D796 (Or.inr (wd hw 8 rfl)) (ty := (.array .byte)) (by decide)) (show Fld Z h796 a796 "java/lang/String" "coder" "B" (.int (0 : Int32)) from D796 (Or.inr (wd hw 9 rfl)) (ty := .byte) (by decide)) c798 O2 P5 rfl rfl (by decide) (by decide) (lc (by decide) (lc (by decide) (lc (by decide) (lc (by decide) (lc (c8 rc3 q8) ln))))) (by decide) (by decide)) (kc := 1) (ks := 5) (by decide) (by decide) (allS z796 all0) (fun _ => (sfS s796 sf0)) fun v799 T799 h799 L799 A799 K799 q799 => ?_
          have Q800 : Keep h0 h799 [] := Q797.trans K799 (allS (Or.inr y796) all0)
          obtain ⟨rfl, t799, tz799, tg799, tn799, G799⟩ := q799
          show Wp pG e below _ T799 (mkF m 243 _ [(.ref a796)])
          refine f_callS A799 at_243 (pc' := 246) rfl (wd hw 81 rfl) (wd hw 82 rfl) (wd hw 16 rfl) (wd hw 83 rfl) (by decide) pd18 [(.ref a796)] [] rfl rfl rfl 0 (Nat.le_of_eq rfl) (CN.pay (W := 0) A799 (m_fk l Z a0 hw aA aD aM aL vv a796 t799 [(100 : Int32), (101 : Int32), (110 : Int32), (121 : Int32), c3] .null zc O2 P5 h799 n0 A799.old hV G799 app_no1) (wd hw 83 rfl) (wd hw 16 rfl) (by decide) (by decide)) (kc := 1) (ks := 4) (by decide) (by decide) all0 (fun _ => sf0) fun v801 T801 h801 L801 A801 K801 q801 => ?_
          have Q802 : Keep h0 h801 [] := Q800.trans K801 all0
          obtain rfl := q801
          show Wp pG e below _ T801 (mkF m 246 _ [.null])
          refine f_nonN A801 at_246 (pc' := 249) rfl ?_
          refine f_iconst A801 at_249 (pc' := 250) rfl 1 rfl ?_
          refine f_goto A801 at_250 (pc' := 254) (by decide) (by decide) ?_
          exact f_retBW A801 hEL hlk hret at_254 (by decide) (1 : Int32) (by decide) (by decide) (by decide) Q802 rfl
  · refine f_iloadN A0 at_0 (pc' := 1) rfl rfl ?_
    refine f_iconst A0 at_1 (pc' := 2) rfl 3 rfl ?_
    refine f_iand A0 at_2 (pc' := 3) rfl (2 : Int32) hk ?_
    refine f_istore A0 at_3 (pc' := 5) rfl (L' := #[.val (.int sel), .val (.int pos), .val (.int ch), .val (.long bytes), .second, .val (.int (2 : Int32)), .unset, .unset, .unset, .unset, .unset, .unset, .unset, .unset, .unset]) rfl ?_
    refine f_iloadN A0 at_5 (pc' := 6) rfl rfl ?_
    refine f_iconst A0 at_6 (pc' := 7) rfl 2 rfl ?_
    refine f_iushr A0 at_7 (pc' := 8) rfl ((sel.toUInt32 >>> ((2 : Int32) &&& 31).toUInt32).toInt32) rfl ?_
    refine f_iconst A0 at_8 (pc' := 9) rfl 3 rfl ?_
    refine f_iand A0 at_9 (pc' := 10) rfl mo hmo ?_
    refine f_istore A0 at_10 (pc' := 12) rfl (L' := #[.val (.int sel), .val (.int pos), .val (.int ch), .val (.long bytes), .second, .val (.int (2 : Int32)), .val (.int mo), .unset, .unset, .unset, .unset, .unset, .unset, .unset, .unset]) rfl ?_
    refine f_iload A0 at_12 (pc' := 14) rfl rfl ?_
    refine f_callSW A0 at_14 (pc' := 17) rfl (wd hw 0 rfl) (wd hw 1 rfl) (wd hw 2 rfl) (wd hw 3 rfl) (by decide) pd14 [(.int (2 : Int32))] [] rfl rfl rfl 0 (Nat.le_of_eq rfl) (CW.pay (W := 0) A0 hEL (m_kw2 l Z a0 hw h0 n0 A0.old hEL) (wd hw 3 rfl) (wd hw 2 rfl) (by decide) (by decide) (fun _ q => nomatch q)) (kc := 2) (ks := 24) (by decide) (by decide) all0 fun v803 vm803 T803 h803 L803 A803 K803 C803 q803 => ?_
    have Q804 : Keep h0 h803 [] := K0.trans K803 all0
    obtain ⟨w803, u803, rfl, G803⟩ := q803
    show Wp pG e below _ T803 (mkF m 17 _ [(.ref w803)])
    refine f_astore A803 at_17 (pc' := 19) rfl rfl (L' := #[.val (.int sel), .val (.int pos), .val (.int ch), .val (.long bytes), .second, .val (.int (2 : Int32)), .val (.int mo), .val (.ref w803), .unset, .unset, .unset, .unset, .unset, .unset, .unset]) rfl ?_
    refine f_iload A803 at_19 (pc' := 21) rfl rfl ?_
    refine f_callS A803 at_21 (pc' := 24) rfl (wd hw 12 rfl) (wd hw 13 rfl) (wd hw 2 rfl) (wd hw 14 rfl) (by decide) pd15 [(.int (2 : Int32))] [] rfl rfl rfl 0 (Nat.le_of_eq rfl) (CN.pay (W := 0) A803 (m_ek2 l Z a0 hw aA aD aM aL vv h803 n0 A803.old hV) (wd hw 14 rfl) (wd hw 2 rfl) (by decide) (by decide)) (kc := 0) (ks := 0) (by decide) (by decide) all0 (fun _ => sf0) fun v805 T805 h805 L805 A805 K805 q805 => ?_
    obtain ⟨rfl, hh805⟩ := q805
    obtain rfl := hh805.symm
    show Wp pG e below _ T805 (mkF m 24 _ [(.ref aM)])
    refine f_astore A805 at_24 (pc' := 26) rfl rfl (L' := #[.val (.int sel), .val (.int pos), .val (.int ch), .val (.long bytes), .second, .val (.int (2 : Int32)), .val (.int mo), .val (.ref w803), .val (.ref aM), .unset, .unset, .unset, .unset, .unset, .unset]) rfl ?_
    refine f_aload A805 at_26 (pc' := 28) rfl rfl rfl ?_
    refine f_callV A805 (a := w803) at_28 (pc' := 31) rfl (wd hw 18 rfl) (wd hw 19 rfl) (nfS A805 (wd hw 21 rfl)) (wd hw 21 rfl) (wd hw 20 rfl) (by decide) G803.exa pd11 [] [] rfl rfl rfl 0 (Nat.le_of_eq rfl) (payLen (W := 0) A805 hw (wd hw 6 rfl) G803 O2 P5 (by decide) (by decide)) (kc := 0) (ks := 0) (by decide) (by decide) all0 (fun _ => sf0) fun v806 T806 h806 L806 A806 K806 q806 => ?_
    obtain ⟨rfl, hh806⟩ := q806
    obtain rfl := hh806.symm
    show Wp pG e below _ T806 (mkF m 31 _ [(.int (4 : Int32))])
    refine f_istore A806 at_31 (pc' := 33) rfl (L' := #[.val (.int sel), .val (.int pos), .val (.int ch), .val (.long bytes), .second, .val (.int (2 : Int32)), .val (.int mo), .val (.ref w803), .val (.ref aM), .val (.int (4 : Int32)), .unset, .unset, .unset, .unset, .unset]) rfl ?_
    rcases hm4 with rfl | rfl | rfl | rfl
    · refine f_iload A806 at_33 (pc' := 35) rfl rfl ?_
      refine f_ifN A806 at_35 ((if0 _ _).trans (teq (by decide : (0 : Int32) = (0 : Int32))).2) (pc' := 38) rfl ?_
      refine f_new A806 at_38 (pc' := 41) rfl (wd hw 31 rfl) (wd hw 6 rfl) (wd hw 5 rfl) (by decide) (by decide) fun a807 T807 h807 g807 A807 E807 X807 D807 => ?_
      have z807 : n0 ≤ a807 := Nat.le_trans A806.sz (Nat.le_of_eq g807.symm)
      have y807 : h0.size ≤ a807 := Nat.le_trans Q804.1 (Nat.le_of_eq g807.symm)
      have Q808 : Keep h0 h807 [] := Q804.ext E807
      have s807 := Safe.ext E807 (A806.ch rfl).1 (Safe.new (Nat.le_of_eq g807.symm))
      refine f_dup A807 at_41 (pc' := 42) rfl rfl ?_
      refine f_aload A807 at_42 (pc' := 44) rfl rfl rfl ?_
      refine f_iload A807 at_44 (pc' := 46) rfl rfl ?_
      have c809 := (G803.ext E807)
      refine f_callS A807 at_46 (pc' := 49) rfl (wd hw 32 rfl) (wd hw 33 rfl) (wd hw 2 rfl) (wd hw 34 rfl) (by decide) pd16 [(.ref w803), (.int (4 : Int32))] [(.ref a807), (.ref a807)] rfl rfl rfl 2 (Nat.le_of_eq rfl) (CN.pay (W := 2) A807 (m_ck20 l Z a0 hw w803 u803 zc O2 P5 fm O4 rG3 h807 n0 A807.old c809) (wd hw 34 rfl) (wd hw 2 rfl) (by decide) (by decide)) (kc := 1) (ks := 4) (by decide) (by decide) all0 (fun _ => sf0) fun v810 T810 h810 L810 A810 K810 q810 => ?_
      have Q811 : Keep h0 h810 [] := Q808.trans K810 all0
      obtain ⟨b810, kA810, rfl, bg810, V810⟩ := q810
      show Wp pG e below _ T810 (mkF m 49 _ [(.ref b810), (.ref a807), (.ref a807)])
      have c812 := (X807.keep K810)
      have c813 := ((show Fld Z h807 a807 "java/lang/String" "value" "[B" .null from D807 (Or.inr (wd hw 8 rfl)) (ty := (.array .byte)) (by decide)).keep K810 nin0)
      have c814 := ((show Fld Z h807 a807 "java/lang/String" "coder" "B" (.int (0 : Int32)) from D807 (Or.inr (wd hw 9 rfl)) (ty := .byte) (by decide)).keep K810 nin0)
      have c816 := (Safe.keep K810 sf0 (A807.ch rfl).1 s807)
      refine f_callI A810 (a := a807) at_49 (pc' := 52) rfl rfl (wd hw 61 rfl) (wd hw 62 rfl) (wd hw 63 rfl) (by decide) pd17 [(.ref b810)] [(.ref a807)] rfl rfl rfl 1 (Nat.le_of_eq rfl) (payNew (W := 1) A810 hw (wd hw 6 rfl) (cs := [(109 : Int32), (111 : Int32), (99 : Int32), (107 : Int32)]) 4 z807 c812 c813 c814 V810 O2 P5 rfl rfl (by decide) (by decide) (by decide) (by decide) (by decide)) (kc := 1) (ks := 4) (by decide) (by decide) (allS z807 all0) (fun _ => (sfS c816 sf0)) fun v815 T815 h815 L815 A815 K815 q815 => ?_
      have Q817 : Keep h0 h815 [] := Q811.trans K815 (allS (Or.inr y807) all0)
      obtain ⟨rfl, t815, tz815, tg815, tn815, G815⟩ := q815
      show Wp pG e below _ T815 (mkF m 52 _ [(.ref a807)])
      refine f_callS A815 at_52 (pc' := 55) rfl (wd hw 81 rfl) (wd hw 82 rfl) (wd hw 16 rfl) (wd hw 83 rfl) (by decide) pd18 [(.ref a807)] [] rfl rfl rfl 0 (Nat.le_of_eq rfl) (CN.pay (W := 0) A815 (m_fk l Z a0 hw aA aD aM aL vv a807 t815 [(109 : Int32), (111 : Int32), (99 : Int32), (107 : Int32)] (.ref aM) zc O2 P5 h815 n0 A815.old hV G815 rfl) (wd hw 83 rfl) (wd hw 16 rfl) (by decide) (by decide)) (kc := 1) (ks := 4) (by decide) (by decide) all0 (fun _ => sf0) fun v818 T818 h818 L818 A818 K818 q818 => ?_
      have Q819 : Keep h0 h818 [] := Q817.trans K818 all0
      obtain rfl := q818
      show Wp pG e below _ T818 (mkF m 55 _ [(.ref aM)])
      refine f_aload A818 at_55 (pc' := 57) rfl rfl rfl ?_
      refine f_acmp A818 rfl rfl at_57 true (decide_eq_true rfl) (by decide) (pc' := 60) (by decide) ?_
      refine f_iconst A818 at_60 (pc' := 61) rfl 1 rfl ?_
      refine f_goto A818 at_61 (pc' := 65) (by decide) (by decide) ?_
      exact f_retBW A818 hEL hlk hret at_65 (by decide) (1 : Int32) (by decide) (by decide) (by decide) Q819 rfl
    · obtain ⟨P, hP, hPn⟩ := rem_pos pos 4 4 rfl (by decide)
      refine f_iload A806 at_33 (pc' := 35) rfl rfl ?_
      refine f_ifY A806 at_35 ((if0 _ _).trans (feq (by decide : ¬ (1 : Int32) = (0 : Int32))).2) (pc' := 66) (by decide) (by decide) ?_
      refine f_iload A806 at_66 (pc' := 68) rfl rfl ?_
      refine f_iconst A806 at_68 (pc' := 69) rfl 1 rfl ?_
      refine f_icN A806 at_69 (teq (by decide : (1 : Int32) = (1 : Int32))).2 (pc' := 72) rfl ?_
      refine f_aload A806 at_72 (pc' := 74) rfl rfl rfl ?_
      refine f_iload A806 at_74 (pc' := 76) rfl rfl ?_
      refine f_callS A806 at_76 (pc' := 79) rfl (wd hw 32 rfl) (wd hw 33 rfl) (wd hw 2 rfl) (wd hw 34 rfl) (by decide) pd16 [(.ref w803), (.int (4 : Int32))] [] rfl rfl rfl 0 (Nat.le_of_eq rfl) (CN.pay (W := 0) A806 (m_ck20 l Z a0 hw w803 u803 zc O2 P5 fm O4 rG3 h803 n0 A806.old G803) (wd hw 34 rfl) (wd hw 2 rfl) (by decide) (by decide)) (kc := 1) (ks := 4) (by decide) (by decide) all0 (fun _ => sf0) fun v820 T820 h820 L820 A820 K820 q820 => ?_
      have Q821 : Keep h0 h820 [] := Q804.trans K820 all0
      obtain ⟨b820, kA820, rfl, bg820, V820⟩ := q820
      show Wp pG e below _ T820 (mkF m 79 _ [(.ref b820)])
      refine f_astore A820 at_79 (pc' := 81) rfl rfl (L' := #[.val (.int sel), .val (.int pos), .val (.int ch), .val (.long bytes), .second, .val (.int (2 : Int32)), .val (.int (1 : Int32)), .val (.ref w803), .val (.ref aM), .val (.int (4 : Int32)), .val (.ref b820), .unset, .unset, .unset, .unset]) rfl ?_
      refine f_iloadN A820 at_81 (pc' := 82) rfl rfl ?_
      refine f_ldcI A820 at_82 (pc' := 84) rfl (wd hw 113 rfl) ?_
      refine f_iand A820 at_84 (pc' := 85) rfl (pos &&& (2147483647 : Int32)) rfl ?_
      refine f_iload A820 at_85 (pc' := 87) rfl rfl ?_
      refine f_irem A820 at_87 (pc' := 88) rfl (by decide) (Int32.ofNat P) hP ?_
      refine f_istore A820 at_88 (pc' := 90) rfl (L' := #[.val (.int sel), .val (.int pos), .val (.int ch), .val (.long bytes), .second, .val (.int (2 : Int32)), .val (.int (1 : Int32)), .val (.ref w803), .val (.ref aM), .val (.int (4 : Int32)), .val (.ref b820), .val (.int (Int32.ofNat P)), .unset, .unset, .unset]) rfl ?_
      refine f_iloadN A820 at_90 (pc' := 91) rfl rfl ?_
      refine f_i2c A820 at_91 (pc' := 92) rfl c1 hc1 ?_
      refine f_istore A820 at_92 (pc' := 94) rfl (L' := #[.val (.int sel), .val (.int pos), .val (.int ch), .val (.long bytes), .second, .val (.int (2 : Int32)), .val (.int (1 : Int32)), .val (.ref w803), .val (.ref aM), .val (.int (4 : Int32)), .val (.ref b820), .val (.int (Int32.ofNat P)), .val (.int c1), .unset, .unset]) rfl ?_
      refine f_aload A820 at_94 (pc' := 96) rfl rfl rfl ?_
      refine f_iload A820 at_96 (pc' := 98) rfl rfl ?_
      refine f_caload A820 at_98 (pc' := 99) rfl V820 (ofn_in hPn (by decide)) (v := (.int (([(109 : Int32), (111 : Int32), (99 : Int32), (107 : Int32)] : List Int32).getD P 0))) (by rw [ofn_clamp (by omega)]; exact getDm (cs := [(109 : Int32), (111 : Int32), (99 : Int32), (107 : Int32)]) _ hPn) ?_
      refine f_istore A820 at_99 (pc' := 101) rfl (L' := #[.val (.int sel), .val (.int pos), .val (.int ch), .val (.long bytes), .second, .val (.int (2 : Int32)), .val (.int (1 : Int32)), .val (.ref w803), .val (.ref aM), .val (.int (4 : Int32)), .val (.ref b820), .val (.int (Int32.ofNat P)), .val (.int c1), .val (.int (([(109 : Int32), (111 : Int32), (99 : Int32), (107 : Int32)] : List Int32).getD P 0)), .unset]) rfl ?_
      refine f_aload A820 at_101 (pc' := 103) rfl rfl rfl ?_
      refine f_iload A820 at_103 (pc' := 105) rfl rfl ?_
      refine f_iload A820 at_105 (pc' := 107) rfl rfl ?_
      refine f_castore A820 at_107 (pc' := 108) rfl V820 (ofn_in hPn (by decide)) P (ofn_clamp (by omega)) hPn c1 (nar_id rc1) (vs' := ((([(109 : Int32), (111 : Int32), (99 : Int32), (107 : Int32)] : List Int32).set P c1).map Value.int)) (by rw [List.map_set]; rfl) (Nat.le_trans A806.sz bg820) (fun _ => (Safe.arv A820.hZ.alike V820 (by decide))) fun T822 h822 A822 K822 V822 => ?_
      have Q823 : Keep h0 h822 [] := Q821.trans K822 (allS (Or.inr (Nat.le_trans Q804.1 bg820)) all0)
      by_cases q8 : (255 : Int32) < c1
      · by_cases qe : c1 = ([(109 : Int32), (111 : Int32), (99 : Int32), (107 : Int32)] : List Int32).getD P 0
        · refine f_new A822 at_108 (pc' := 111) rfl (wd hw 31 rfl) (wd hw 6 rfl) (wd hw 5 rfl) (by decide) (by decide) fun a824 T824 h824 g824 A824 E824 X824 D824 => ?_
          have z824 : n0 ≤ a824 := Nat.le_trans A822.sz (Nat.le_of_eq g824.symm)
          have y824 : h0.size ≤ a824 := Nat.le_trans Q823.1 (Nat.le_of_eq g824.symm)
          have Q825 : Keep h0 h824 [] := Q823.ext E824
          have s824 := Safe.ext E824 (A822.ch rfl).1 (Safe.new (Nat.le_of_eq g824.symm))
          refine f_dup A824 at_111 (pc' := 112) rfl rfl ?_
          refine f_aload A824 at_112 (pc' := 114) rfl rfl rfl ?_
          have c826 := (V822.ext E824)
          refine f_callI A824 (a := a824) at_114 (pc' := 117) rfl rfl (wd hw 61 rfl) (wd hw 62 rfl) (wd hw 63 rfl) (by decide) pd17 [(.ref b820)] [(.ref a824)] rfl rfl rfl 1 (Nat.le_of_eq rfl) (CN.pay (W := 1) A824 (m_new1W l Z a0 hw a824 b820 kA820 4 (([(109 : Int32), (111 : Int32), (99 : Int32), (107 : Int32)] : List Int32).set P c1) (.int 0) P Oa Oh Ol zc O2 P5 h824 n0 A824.old X824 (show Fld Z h824 a824 "java/lang/String" "value" "[B" .null from D824 (Or.inr (wd hw 8 rfl)) (ty := (.array .byte)) (by decide)) (show Fld Z h824 a824 "java/lang/String" "coder" "B" (.int (0 : Int32)) from D824 (Or.inr (wd hw 9 rfl)) (ty := .byte) (by decide)) z824 c826 (by rw [List.length_set]; rfl) (by decide) hPn (fun i hi => by rw [getD_set_ne hi]; have hq : ∀ i : Fin 4, ¬ (255 : Int32) < ([(109 : Int32), (111 : Int32), (99 : Int32), (107 : Int32)] : List Int32).getD i.val 0 := (by decide); exact hq ⟨i, Nat.lt_trans hi hPn⟩) (by rw [getD_set_eq hPn]; exact q8) (lat_set (by decide) (c16 rc1))) (wd hw 63 rfl) (wd hw 5 rfl) (by decide) (by decide)) (kc := 2) (ks := 108) (by decide) (by decide) (allS z824 all0) (fun _ => (sfS s824 sf0)) fun v827 T827 h827 L827 A827 K827 q827 => ?_
          have Q828 : Keep h0 h827 [] := Q825.trans K827 (allS (Or.inr y824) all0)
          obtain ⟨rfl, t827, tz827, tg827, tn827, G827⟩ := q827
          show Wp pG e below _ T827 (mkF m 117 _ [(.ref a824)])
          refine f_callS A827 at_117 (pc' := 120) rfl (wd hw 81 rfl) (wd hw 82 rfl) (wd hw 16 rfl) (wd hw 83 rfl) (by decide) pd18 [(.ref a824)] [] rfl rfl rfl 0 (Nat.le_of_eq rfl) (CN.pay (W := 0) A827 (m_fk l Z a0 hw aA aD aM aL vv a824 t827 (([(109 : Int32), (111 : Int32), (99 : Int32), (107 : Int32)] : List Int32).set P c1) (.ref aM) zc O2 P5 h827 n0 A827.old hV G827 (by rw [qe, set_self hPn]; rfl)) (wd hw 83 rfl) (wd hw 16 rfl) (by decide) (by decide)) (kc := 1) (ks := 4) (by decide) (by decide) all0 (fun _ => sf0) fun v829 T829 h829 L829 A829 K829 q829 => ?_
          have Q830 : Keep h0 h829 [] := Q828.trans K829 all0
          obtain rfl := q829
          show Wp pG e below _ T829 (mkF m 120 _ [(.ref aM)])
          refine f_astore A829 at_120 (pc' := 122) rfl rfl (L' := #[.val (.int sel), .val (.int pos), .val (.int ch), .val (.long bytes), .second, .val (.int (2 : Int32)), .val (.int (1 : Int32)), .val (.ref w803), .val (.ref aM), .val (.int (4 : Int32)), .val (.ref b820), .val (.int (Int32.ofNat P)), .val (.int c1), .val (.int (([(109 : Int32), (111 : Int32), (99 : Int32), (107 : Int32)] : List Int32).getD P 0)), .val (.ref aM)]) rfl ?_
          refine f_iload A829 at_122 (pc' := 124) rfl rfl ?_
          refine f_iload A829 at_124 (pc' := 126) rfl rfl ?_
          refine f_icN A829 at_126 (teq qe).2 (pc' := 129) rfl ?_
          refine f_aload A829 at_129 (pc' := 131) rfl rfl rfl ?_
          refine f_aload A829 at_131 (pc' := 133) rfl rfl rfl ?_
          refine f_acmp A829 rfl rfl at_133 true (decide_eq_true rfl) (by decide) (pc' := 136) (by decide) ?_
          refine f_iconst A829 at_136 (pc' := 137) rfl 1 rfl ?_
          refine f_goto A829 at_137 (pc' := 141) (by decide) (by decide) ?_
          exact f_retBW A829 hEL hlk hret at_141 (by decide) (1 : Int32) (by decide) (by decide) (by decide) Q830 rfl
        · refine f_new A822 at_108 (pc' := 111) rfl (wd hw 31 rfl) (wd hw 6 rfl) (wd hw 5 rfl) (by decide) (by decide) fun a831 T831 h831 g831 A831 E831 X831 D831 => ?_
          have z831 : n0 ≤ a831 := Nat.le_trans A822.sz (Nat.le_of_eq g831.symm)
          have y831 : h0.size ≤ a831 := Nat.le_trans Q823.1 (Nat.le_of_eq g831.symm)
          have Q832 : Keep h0 h831 [] := Q823.ext E831
          have s831 := Safe.ext E831 (A822.ch rfl).1 (Safe.new (Nat.le_of_eq g831.symm))
          refine f_dup A831 at_111 (pc' := 112) rfl rfl ?_
          refine f_aload A831 at_112 (pc' := 114) rfl rfl rfl ?_
          have c833 := (V822.ext E831)
          refine f_callI A831 (a := a831) at_114 (pc' := 117) rfl rfl (wd hw 61 rfl) (wd hw 62 rfl) (wd hw 63 rfl) (by decide) pd17 [(.ref b820)] [(.ref a831)] rfl rfl rfl 1 (Nat.le_of_eq rfl) (CN.pay (W := 1) A831 (m_new1W l Z a0 hw a831 b820 kA820 4 (([(109 : Int32), (111 : Int32), (99 : Int32), (107 : Int32)] : List Int32).set P c1) (.int 0) P Oa Oh Ol zc O2 P5 h831 n0 A831.old X831 (show Fld Z h831 a831 "java/lang/String" "value" "[B" .null from D831 (Or.inr (wd hw 8 rfl)) (ty := (.array .byte)) (by decide)) (show Fld Z h831 a831 "java/lang/String" "coder" "B" (.int (0 : Int32)) from D831 (Or.inr (wd hw 9 rfl)) (ty := .byte) (by decide)) z831 c833 (by rw [List.length_set]; rfl) (by decide) hPn (fun i hi => by rw [getD_set_ne hi]; have hq : ∀ i : Fin 4, ¬ (255 : Int32) < ([(109 : Int32), (111 : Int32), (99 : Int32), (107 : Int32)] : List Int32).getD i.val 0 := (by decide); exact hq ⟨i, Nat.lt_trans hi hPn⟩) (by rw [getD_set_eq hPn]; exact q8) (lat_set (by decide) (c16 rc1))) (wd hw 63 rfl) (wd hw 5 rfl) (by decide) (by decide)) (kc := 2) (ks := 108) (by decide) (by decide) (allS z831 all0) (fun _ => (sfS s831 sf0)) fun v834 T834 h834 L834 A834 K834 q834 => ?_
          have Q835 : Keep h0 h834 [] := Q832.trans K834 (allS (Or.inr y831) all0)
          obtain ⟨rfl, t834, tz834, tg834, tn834, G834⟩ := q834
          show Wp pG e below _ T834 (mkF m 117 _ [(.ref a831)])
          refine f_callS A834 at_117 (pc' := 120) rfl (wd hw 81 rfl) (wd hw 82 rfl) (wd hw 16 rfl) (wd hw 83 rfl) (by decide) pd18 [(.ref a831)] [] rfl rfl rfl 0 (Nat.le_of_eq rfl) (CN.pay (W := 0) A834 (m_fk l Z a0 hw aA aD aM aL vv a831 t834 (([(109 : Int32), (111 : Int32), (99 : Int32), (107 : Int32)] : List Int32).set P c1) .null zc O2 P5 h834 n0 A834.old hV G834 (set_no2 hPn qe)) (wd hw 83 rfl) (wd hw 16 rfl) (by decide) (by decide)) (kc := 1) (ks := 4) (by decide) (by decide) all0 (fun _ => sf0) fun v836 T836 h836 L836 A836 K836 q836 => ?_
          have Q837 : Keep h0 h836 [] := Q835.trans K836 all0
          obtain rfl := q836
          show Wp pG e below _ T836 (mkF m 120 _ [.null])
          refine f_astore A836 at_120 (pc' := 122) rfl rfl (L' := #[.val (.int sel), .val (.int pos), .val (.int ch), .val (.long bytes), .second, .val (.int (2 : Int32)), .val (.int (1 : Int32)), .val (.ref w803), .val (.ref aM), .val (.int (4 : Int32)), .val (.ref b820), .val (.int (Int32.ofNat P)), .val (.int c1), .val (.int (([(109 : Int32), (111 : Int32), (99 : Int32), (107 : Int32)] : List Int32).getD P 0)), .val .null]) rfl ?_
          refine f_iload A836 at_122 (pc' := 124) rfl rfl ?_
          refine f_iload A836 at_124 (pc' := 126) rfl rfl ?_
          refine f_icY A836 at_126 (feq qe).2 (pc' := 142) (by decide) (by decide) ?_
          refine f_aload A836 at_142 (pc' := 144) rfl rfl rfl ?_
          refine f_nonN A836 at_144 (pc' := 147) rfl ?_
          refine f_iconst A836 at_147 (pc' := 148) rfl 1 rfl ?_
          refine f_goto A836 at_148 (pc' := 152) (by decide) (by decide) ?_
          exact f_retBW A836 hEL hlk hret at_152 (by decide) (1 : Int32) (by decide) (by decide) (by decide) Q837 rfl
      · by_cases qe : c1 = ([(109 : Int32), (111 : Int32), (99 : Int32), (107 : Int32)] : List Int32).getD P 0
        · refine f_new A822 at_108 (pc' := 111) rfl (wd hw 31 rfl) (wd hw 6 rfl) (wd hw 5 rfl) (by decide) (by decide) fun a838 T838 h838 g838 A838 E838 X838 D838 => ?_
          have z838 : n0 ≤ a838 := Nat.le_trans A822.sz (Nat.le_of_eq g838.symm)
          have y838 : h0.size ≤ a838 := Nat.le_trans Q823.1 (Nat.le_of_eq g838.symm)
          have Q839 : Keep h0 h838 [] := Q823.ext E838
          have s838 := Safe.ext E838 (A822.ch rfl).1 (Safe.new (Nat.le_of_eq g838.symm))
          refine f_dup A838 at_111 (pc' := 112) rfl rfl ?_
          refine f_aload A838 at_112 (pc' := 114) rfl rfl rfl ?_
          have c840 := (V822.ext E838)
          refine f_callI A838 (a := a838) at_114 (pc' := 117) rfl rfl (wd hw 61 rfl) (wd hw 62 rfl) (wd hw 63 rfl) (by decide) pd17 [(.ref b820)] [(.ref a838)] rfl rfl rfl 1 (Nat.le_of_eq rfl) (payNew (W := 1) A838 hw (wd hw 6 rfl) (cs := (([(109 : Int32), (111 : Int32), (99 : Int32), (107 : Int32)] : List Int32).set P c1)) 4 z838 X838 (show Fld Z h838 a838 "java/lang/String" "value" "[B" .null from D838 (Or.inr (wd hw 8 rfl)) (ty := (.array .byte)) (by decide)) (show Fld Z h838 a838 "java/lang/String" "coder" "B" (.int (0 : Int32)) from D838 (Or.inr (wd hw 9 rfl)) (ty := .byte) (by decide)) c840 O2 P5 (by rw [List.length_set]; rfl) rfl (by decide) (by decide) (lat_set (by decide) (c8 rc1 q8)) (by decide) (by decide)) (kc := 1) (ks := 4) (by decide) (by decide) (allS z838 all0) (fun _ => (sfS s838 sf0)) fun v841 T841 h841 L841 A841 K841 q841 => ?_
          have Q842 : Keep h0 h841 [] := Q839.trans K841 (allS (Or.inr y838) all0)
          obtain ⟨rfl, t841, tz841, tg841, tn841, G841⟩ := q841
          show Wp pG e below _ T841 (mkF m 117 _ [(.ref a838)])
          refine f_callS A841 at_117 (pc' := 120) rfl (wd hw 81 rfl) (wd hw 82 rfl) (wd hw 16 rfl) (wd hw 83 rfl) (by decide) pd18 [(.ref a838)] [] rfl rfl rfl 0 (Nat.le_of_eq rfl) (CN.pay (W := 0) A841 (m_fk l Z a0 hw aA aD aM aL vv a838 t841 (([(109 : Int32), (111 : Int32), (99 : Int32), (107 : Int32)] : List Int32).set P c1) (.ref aM) zc O2 P5 h841 n0 A841.old hV G841 (by rw [qe, set_self hPn]; rfl)) (wd hw 83 rfl) (wd hw 16 rfl) (by decide) (by decide)) (kc := 1) (ks := 4) (by decide) (by decide) all0 (fun _ => sf0) fun v843 T843 h843 L843 A843 K843 q843 => ?_
          have Q844 : Keep h0 h843 [] := Q842.trans K843 all0
          obtain rfl := q843
          show Wp pG e below _ T843 (mkF m 120 _ [(.ref aM)])
          refine f_astore A843 at_120 (pc' := 122) rfl rfl (L' := #[.val (.int sel), .val (.int pos), .val (.int ch), .val (.long bytes), .second, .val (.int (2 : Int32)), .val (.int (1 : Int32)), .val (.ref w803), .val (.ref aM), .val (.int (4 : Int32)), .val (.ref b820), .val (.int (Int32.ofNat P)), .val (.int c1), .val (.int (([(109 : Int32), (111 : Int32), (99 : Int32), (107 : Int32)] : List Int32).getD P 0)), .val (.ref aM)]) rfl ?_
          refine f_iload A843 at_122 (pc' := 124) rfl rfl ?_
          refine f_iload A843 at_124 (pc' := 126) rfl rfl ?_
          refine f_icN A843 at_126 (teq qe).2 (pc' := 129) rfl ?_
          refine f_aload A843 at_129 (pc' := 131) rfl rfl rfl ?_
          refine f_aload A843 at_131 (pc' := 133) rfl rfl rfl ?_
          refine f_acmp A843 rfl rfl at_133 true (decide_eq_true rfl) (by decide) (pc' := 136) (by decide) ?_
          refine f_iconst A843 at_136 (pc' := 137) rfl 1 rfl ?_
          refine f_goto A843 at_137 (pc' := 141) (by decide) (by decide) ?_
          exact f_retBW A843 hEL hlk hret at_141 (by decide) (1 : Int32) (by decide) (by decide) (by decide) Q844 rfl
        · refine f_new A822 at_108 (pc' := 111) rfl (wd hw 31 rfl) (wd hw 6 rfl) (wd hw 5 rfl) (by decide) (by decide) fun a845 T845 h845 g845 A845 E845 X845 D845 => ?_
          have z845 : n0 ≤ a845 := Nat.le_trans A822.sz (Nat.le_of_eq g845.symm)
          have y845 : h0.size ≤ a845 := Nat.le_trans Q823.1 (Nat.le_of_eq g845.symm)
          have Q846 : Keep h0 h845 [] := Q823.ext E845
          have s845 := Safe.ext E845 (A822.ch rfl).1 (Safe.new (Nat.le_of_eq g845.symm))
          refine f_dup A845 at_111 (pc' := 112) rfl rfl ?_
          refine f_aload A845 at_112 (pc' := 114) rfl rfl rfl ?_
          have c847 := (V822.ext E845)
          refine f_callI A845 (a := a845) at_114 (pc' := 117) rfl rfl (wd hw 61 rfl) (wd hw 62 rfl) (wd hw 63 rfl) (by decide) pd17 [(.ref b820)] [(.ref a845)] rfl rfl rfl 1 (Nat.le_of_eq rfl) (payNew (W := 1) A845 hw (wd hw 6 rfl) (cs := (([(109 : Int32), (111 : Int32), (99 : Int32), (107 : Int32)] : List Int32).set P c1)) 4 z845 X845 (show Fld Z h845 a845 "java/lang/String" "value" "[B" .null from D845 (Or.inr (wd hw 8 rfl)) (ty := (.array .byte)) (by decide)) (show Fld Z h845 a845 "java/lang/String" "coder" "B" (.int (0 : Int32)) from D845 (Or.inr (wd hw 9 rfl)) (ty := .byte) (by decide)) c847 O2 P5 (by rw [List.length_set]; rfl) rfl (by decide) (by decide) (lat_set (by decide) (c8 rc1 q8)) (by decide) (by decide)) (kc := 1) (ks := 4) (by decide) (by decide) (allS z845 all0) (fun _ => (sfS s845 sf0)) fun v848 T848 h848 L848 A848 K848 q848 => ?_
          have Q849 : Keep h0 h848 [] := Q846.trans K848 (allS (Or.inr y845) all0)
          obtain ⟨rfl, t848, tz848, tg848, tn848, G848⟩ := q848
          show Wp pG e below _ T848 (mkF m 117 _ [(.ref a845)])
          refine f_callS A848 at_117 (pc' := 120) rfl (wd hw 81 rfl) (wd hw 82 rfl) (wd hw 16 rfl) (wd hw 83 rfl) (by decide) pd18 [(.ref a845)] [] rfl rfl rfl 0 (Nat.le_of_eq rfl) (CN.pay (W := 0) A848 (m_fk l Z a0 hw aA aD aM aL vv a845 t848 (([(109 : Int32), (111 : Int32), (99 : Int32), (107 : Int32)] : List Int32).set P c1) .null zc O2 P5 h848 n0 A848.old hV G848 (set_no2 hPn qe)) (wd hw 83 rfl) (wd hw 16 rfl) (by decide) (by decide)) (kc := 1) (ks := 4) (by decide) (by decide) all0 (fun _ => sf0) fun v850 T850 h850 L850 A850 K850 q850 => ?_
          have Q851 : Keep h0 h850 [] := Q849.trans K850 all0
          obtain rfl := q850
          show Wp pG e below _ T850 (mkF m 120 _ [.null])
          refine f_astore A850 at_120 (pc' := 122) rfl rfl (L' := #[.val (.int sel), .val (.int pos), .val (.int ch), .val (.long bytes), .second, .val (.int (2 : Int32)), .val (.int (1 : Int32)), .val (.ref w803), .val (.ref aM), .val (.int (4 : Int32)), .val (.ref b820), .val (.int (Int32.ofNat P)), .val (.int c1), .val (.int (([(109 : Int32), (111 : Int32), (99 : Int32), (107 : Int32)] : List Int32).getD P 0)), .val .null]) rfl ?_
          refine f_iload A850 at_122 (pc' := 124) rfl rfl ?_
          refine f_iload A850 at_124 (pc' := 126) rfl rfl ?_
          refine f_icY A850 at_126 (feq qe).2 (pc' := 142) (by decide) (by decide) ?_
          refine f_aload A850 at_142 (pc' := 144) rfl rfl rfl ?_
          refine f_nonN A850 at_144 (pc' := 147) rfl ?_
          refine f_iconst A850 at_147 (pc' := 148) rfl 1 rfl ?_
          refine f_goto A850 at_148 (pc' := 152) (by decide) (by decide) ?_
          exact f_retBW A850 hEL hlk hret at_152 (by decide) (1 : Int32) (by decide) (by decide) (by decide) Q851 rfl
    · obtain ⟨n8, hn8⟩ : ∃ z, pos &&& 7 = z := ⟨_, rfl⟩
      have hn9 := lt8 (hn8 ▸ c_and pos 7 (by decide))
      rcases hn9 with rfl | rfl | rfl | rfl | rfl | rfl | rfl | rfl
      · refine f_iload A806 at_33 (pc' := 35) rfl rfl ?_
        refine f_ifY A806 at_35 ((if0 _ _).trans (feq (by decide : ¬ (2 : Int32) = (0 : Int32))).2) (pc' := 66) (by decide) (by decide) ?_
        refine f_iload A806 at_66 (pc' := 68) rfl rfl ?_
        refine f_iconst A806 at_68 (pc' := 69) rfl 1 rfl ?_
        refine f_icY A806 at_69 (feq (by decide : ¬ (2 : Int32) = (1 : Int32))).2 (pc' := 153) (by decide) (by decide) ?_
        refine f_iload A806 at_153 (pc' := 155) rfl rfl ?_
        refine f_iconst A806 at_155 (pc' := 156) rfl 2 rfl ?_
        refine f_icN A806 at_156 (teq (by decide : (2 : Int32) = (2 : Int32))).2 (pc' := 159) rfl ?_
        refine f_new A806 at_159 (pc' := 162) rfl (wd hw 31 rfl) (wd hw 6 rfl) (wd hw 5 rfl) (by decide) (by decide) fun a852 T852 h852 g852 A852 E852 X852 D852 => ?_
        have z852 : n0 ≤ a852 := Nat.le_trans A806.sz (Nat.le_of_eq g852.symm)
        have y852 : h0.size ≤ a852 := Nat.le_trans Q804.1 (Nat.le_of_eq g852.symm)
        have Q853 : Keep h0 h852 [] := Q804.ext E852
        have s852 := Safe.ext E852 (A806.ch rfl).1 (Safe.new (Nat.le_of_eq g852.symm))
        refine f_dup A852 at_162 (pc' := 163) rfl rfl ?_
        refine f_lloadN A852 at_163 (pc' := 164) rfl rfl ?_
        refine f_iloadN A852 at_164 (pc' := 165) rfl rfl ?_
        refine f_bipush A852 at_165 (pc' := 167) rfl 7 rfl ?_
        refine f_iand A852 at_167 (pc' := 168) rfl (0 : Int32) hn8 ?_
        refine f_callS A852 at_168 (pc' := 171) rfl (wd hw 118 rfl) (wd hw 119 rfl) (wd hw 2 rfl) (wd hw 120 rfl) (by decide) pd19 [(.long bytes), (.int (0 : Int32))] [(.ref a852), (.ref a852)] rfl rfl rfl 2 (Nat.le_of_eq rfl) (CN.pay (W := 2) A852 (m_dc0 l Z a0 hw bytes d0 d1 d2 d3 d4 d5 d6 h852 n0 A852.old hd0 rd0 hd1 rd1 hd2 rd2 hd3 rd3 hd4 rd4 hd5 rd5 hd6 rd6) (wd hw 120 rfl) (wd hw 2 rfl) (by decide) (by decide)) (kc := 1) (ks := 0) (by decide) (by decide) all0 (fun _ => sf0) fun v854 T854 h854 L854 A854 K854 q854 => ?_
        have Q855 : Keep h0 h854 [] := Q853.trans K854 all0
        obtain ⟨b854, kA854, rfl, bg854, V854⟩ := q854
        show Wp pG e below _ T854 (mkF m 171 _ [(.ref b854), (.ref a852), (.ref a852)])
        have c856 := (X852.keep K854)
        have c857 := ((show Fld Z h852 a852 "java/lang/String" "value" "[B" .null from D852 (Or.inr (wd hw 8 rfl)) (ty := (.array .byte)) (by decide)).keep K854 nin0)
        have c858 := ((show Fld Z h852 a852 "java/lang/String" "coder" "B" (.int (0 : Int32)) from D852 (Or.inr (wd hw 9 rfl)) (ty := .byte) (by decide)).keep K854 nin0)
        have c860 := (Safe.keep K854 sf0 (A852.ch rfl).1 s852)
        refine f_callIW A854 (a := a852) at_171 (pc' := 174) rfl rfl (wd hw 61 rfl) (wd hw 62 rfl) (wd hw 63 rfl) (by decide) pd17 [(.ref b854)] [(.ref a852)] rfl rfl rfl 1 (Nat.le_of_eq rfl) (CW.pay (W := 1) A854 hEL (m_new1E l Z a0 hw a852 b854 kA854 [] h854 n0 A854.old hEL c856 c857 c858 z852 V854) (wd hw 63 rfl) (wd hw 5 rfl) (by decide) (by decide) (allS ⟨(Nat.lt_of_lt_of_le X852.lt K854.1), c860⟩ all0)) (kc := 2) (ks := 4) (by decide) (by decide) (allS z852 all0) fun v859 vm859 T859 h859 L859 A859 K859 C859 q859 => ?_
        have Q861 : Keep h0 h859 [] := Q855.trans K859 (allS (Or.inr y852) all0)
        obtain ⟨rfl, t859, G859⟩ := q859
        show Wp pG e below _ T859 (mkF m 174 _ [(.ref a852)])
        refine f_astore A859 at_174 (pc' := 176) rfl rfl (L' := #[.val (.int sel), .val (.int pos), .val (.int ch), .val (.long bytes), .second, .val (.int (2 : Int32)), .val (.int (2 : Int32)), .val (.ref w803), .val (.ref aM), .val (.int (4 : Int32)), .val (.ref a852), .unset, .unset, .unset, .unset]) rfl ?_
        refine f_aload A859 at_176 (pc' := 178) rfl rfl rfl ?_
        refine f_callS A859 at_178 (pc' := 181) rfl (wd hw 81 rfl) (wd hw 82 rfl) (wd hw 16 rfl) (wd hw 83 rfl) (by decide) pd18 [(.ref a852)] [] rfl rfl rfl 0 (Nat.le_of_eq rfl) (CN.pay (W := 0) A859 (m_fk l Z a0 hw aA aD aM aL vv a852 t859 [] (vOf aA aD aM aL []) zc O2 P5 h859 n0 A859.old hV G859 rfl) (wd hw 83 rfl) (wd hw 16 rfl) (by decide) (by decide)) (kc := 1) (ks := 4) (by decide) (by decide) all0 (fun _ => sf0) fun v862 T862 h862 L862 A862 K862 q862 => ?_
        have Q863 : Keep h0 h862 [] := Q861.trans K862 all0
        obtain rfl := q862
        show Wp pG e below _ T862 (mkF m 181 _ [(vOf aA aD aM aL [])])
        refine f_aload A862 at_181 (pc' := 183) rfl rfl rfl ?_
        have c864 := (G859.keep K862 nin0 nin0)
        refine f_callSW A862 at_183 (pc' := 186) rfl (wd hw 125 rfl) (wd hw 126 rfl) (wd hw 2 rfl) (wd hw 127 rfl) (by decide) pd18 [(.ref a852)] [(vOf aA aD aM aL [])] rfl rfl rfl 1 (by show Value.category (vOf aA aD aM aL []) + 0 ≤ 1; rw [cat_ref (vOf_ref _ _ _ _ _)]; exact Nat.le_refl _) (CW.pay (W := 1) A862 hEL (m_ref l Z a0 hw aA aD aM aL vv a852 t859 [] zc O2 P5 h862 n0 A862.old hEL hV c864) (wd hw 127 rfl) (wd hw 2 rfl) (by decide) (by decide) (fun _ q => nomatch q)) (kc := 8) (ks := 88) (by decide) (by decide) all0 fun v865 vm865 T865 h865 L865 A865 K865 C865 q865 => ?_
        have Q866 : Keep h0 h865 [] := Q863.trans K865 all0
        obtain rfl := q865
        show Wp pG e below _ T865 (mkF m 186 _ [(vOf aA aD aM aL []), (vOf aA aD aM aL [])])
        refine f_acmp A865 (vOf_ref _ _ _ _ _) (vOf_ref _ _ _ _ _) at_186 true (decide_eq_true rfl) (by decide) (pc' := 189) (by decide) ?_
        refine f_iconst A865 at_189 (pc' := 190) rfl 1 rfl ?_
        refine f_goto A865 at_190 (pc' := 194) (by decide) (by decide) ?_
        exact f_retBW A865 hEL hlk hret at_194 (by decide) (1 : Int32) (by decide) (by decide) (by decide) Q866 rfl
      · refine f_iload A806 at_33 (pc' := 35) rfl rfl ?_
        refine f_ifY A806 at_35 ((if0 _ _).trans (feq (by decide : ¬ (2 : Int32) = (0 : Int32))).2) (pc' := 66) (by decide) (by decide) ?_
        refine f_iload A806 at_66 (pc' := 68) rfl rfl ?_
        refine f_iconst A806 at_68 (pc' := 69) rfl 1 rfl ?_
        refine f_icY A806 at_69 (feq (by decide : ¬ (2 : Int32) = (1 : Int32))).2 (pc' := 153) (by decide) (by decide) ?_
        refine f_iload A806 at_153 (pc' := 155) rfl rfl ?_
        refine f_iconst A806 at_155 (pc' := 156) rfl 2 rfl ?_
        refine f_icN A806 at_156 (teq (by decide : (2 : Int32) = (2 : Int32))).2 (pc' := 159) rfl ?_
        refine f_new A806 at_159 (pc' := 162) rfl (wd hw 31 rfl) (wd hw 6 rfl) (wd hw 5 rfl) (by decide) (by decide) fun a867 T867 h867 g867 A867 E867 X867 D867 => ?_
        have z867 : n0 ≤ a867 := Nat.le_trans A806.sz (Nat.le_of_eq g867.symm)
        have y867 : h0.size ≤ a867 := Nat.le_trans Q804.1 (Nat.le_of_eq g867.symm)
        have Q868 : Keep h0 h867 [] := Q804.ext E867
        have s867 := Safe.ext E867 (A806.ch rfl).1 (Safe.new (Nat.le_of_eq g867.symm))
        refine f_dup A867 at_162 (pc' := 163) rfl rfl ?_
        refine f_lloadN A867 at_163 (pc' := 164) rfl rfl ?_
        refine f_iloadN A867 at_164 (pc' := 165) rfl rfl ?_
        refine f_bipush A867 at_165 (pc' := 167) rfl 7 rfl ?_
        refine f_iand A867 at_167 (pc' := 168) rfl (1 : Int32) hn8 ?_
        refine f_callS A867 at_168 (pc' := 171) rfl (wd hw 118 rfl) (wd hw 119 rfl) (wd hw 2 rfl) (wd hw 120 rfl) (by decide) pd19 [(.long bytes), (.int (1 : Int32))] [(.ref a867), (.ref a867)] rfl rfl rfl 2 (Nat.le_of_eq rfl) (CN.pay (W := 2) A867 (m_dc1 l Z a0 hw bytes d0 d1 d2 d3 d4 d5 d6 h867 n0 A867.old hd0 rd0 hd1 rd1 hd2 rd2 hd3 rd3 hd4 rd4 hd5 rd5 hd6 rd6) (wd hw 120 rfl) (wd hw 2 rfl) (by decide) (by decide)) (kc := 1) (ks := 1) (by decide) (by decide) all0 (fun _ => sf0) fun v869 T869 h869 L869 A869 K869 q869 => ?_
        have Q870 : Keep h0 h869 [] := Q868.trans K869 all0
        obtain ⟨b869, kA869, rfl, bg869, V869⟩ := q869
        show Wp pG e below _ T869 (mkF m 171 _ [(.ref b869), (.ref a867), (.ref a867)])
        have c871 := (X867.keep K869)
        have c872 := ((show Fld Z h867 a867 "java/lang/String" "value" "[B" .null from D867 (Or.inr (wd hw 8 rfl)) (ty := (.array .byte)) (by decide)).keep K869 nin0)
        have c873 := ((show Fld Z h867 a867 "java/lang/String" "coder" "B" (.int (0 : Int32)) from D867 (Or.inr (wd hw 9 rfl)) (ty := .byte) (by decide)).keep K869 nin0)
        have c875 := (Safe.keep K869 sf0 (A867.ch rfl).1 s867)
        refine f_callI A869 (a := a867) at_171 (pc' := 174) rfl rfl (wd hw 61 rfl) (wd hw 62 rfl) (wd hw 63 rfl) (by decide) pd17 [(.ref b869)] [(.ref a867)] rfl rfl rfl 1 (Nat.le_of_eq rfl) (payNew (W := 1) A869 hw (wd hw 6 rfl) (cs := [d0]) 1 z867 c871 c872 c873 V869 O2 P5 rfl rfl (by decide) (by decide) (lc (lat_of rd0) ln) (by decide) (by decide)) (kc := 1) (ks := 1) (by decide) (by decide) (allS z867 all0) (fun _ => (sfS c875 sf0)) fun v874 T874 h874 L874 A874 K874 q874 => ?_
        have Q876 : Keep h0 h874 [] := Q870.trans K874 (allS (Or.inr y867) all0)
        obtain ⟨rfl, t874, tz874, tg874, tn874, G874⟩ := q874
        show Wp pG e below _ T874 (mkF m 174 _ [(.ref a867)])
        refine f_astore A874 at_174 (pc' := 176) rfl rfl (L' := #[.val (.int sel), .val (.int pos), .val (.int ch), .val (.long bytes), .second, .val (.int (2 : Int32)), .val (.int (2 : Int32)), .val (.ref w803), .val (.ref aM), .val (.int (4 : Int32)), .val (.ref a867), .unset, .unset, .unset, .unset]) rfl ?_
        refine f_aload A874 at_176 (pc' := 178) rfl rfl rfl ?_
        refine f_callS A874 at_178 (pc' := 181) rfl (wd hw 81 rfl) (wd hw 82 rfl) (wd hw 16 rfl) (wd hw 83 rfl) (by decide) pd18 [(.ref a867)] [] rfl rfl rfl 0 (Nat.le_of_eq rfl) (CN.pay (W := 0) A874 (m_fk l Z a0 hw aA aD aM aL vv a867 t874 [d0] (vOf aA aD aM aL [d0]) zc O2 P5 h874 n0 A874.old hV G874 rfl) (wd hw 83 rfl) (wd hw 16 rfl) (by decide) (by decide)) (kc := 1) (ks := 4) (by decide) (by decide) all0 (fun _ => sf0) fun v877 T877 h877 L877 A877 K877 q877 => ?_
        have Q878 : Keep h0 h877 [] := Q876.trans K877 all0
        obtain rfl := q877
        show Wp pG e below _ T877 (mkF m 181 _ [(vOf aA aD aM aL [d0])])
        refine f_aload A877 at_181 (pc' := 183) rfl rfl rfl ?_
        have c879 := (G874.keep K877 nin0 nin0)
        refine f_callSW A877 at_183 (pc' := 186) rfl (wd hw 125 rfl) (wd hw 126 rfl) (wd hw 2 rfl) (wd hw 127 rfl) (by decide) pd18 [(.ref a867)] [(vOf aA aD aM aL [d0])] rfl rfl rfl 1 (by show Value.category (vOf aA aD aM aL [d0]) + 0 ≤ 1; rw [cat_ref (vOf_ref _ _ _ _ _)]; exact Nat.le_refl _) (CW.pay (W := 1) A877 hEL (m_ref l Z a0 hw aA aD aM aL vv a867 t874 [d0] zc O2 P5 h877 n0 A877.old hEL hV c879) (wd hw 127 rfl) (wd hw 2 rfl) (by decide) (by decide) (fun _ q => nomatch q)) (kc := 8) (ks := 88) (by decide) (by decide) all0 fun v880 vm880 T880 h880 L880 A880 K880 C880 q880 => ?_
        have Q881 : Keep h0 h880 [] := Q878.trans K880 all0
        obtain rfl := q880
        show Wp pG e below _ T880 (mkF m 186 _ [(vOf aA aD aM aL [d0]), (vOf aA aD aM aL [d0])])
        refine f_acmp A880 (vOf_ref _ _ _ _ _) (vOf_ref _ _ _ _ _) at_186 true (decide_eq_true rfl) (by decide) (pc' := 189) (by decide) ?_
        refine f_iconst A880 at_189 (pc' := 190) rfl 1 rfl ?_
        refine f_goto A880 at_190 (pc' := 194) (by decide) (by decide) ?_
        exact f_retBW A880 hEL hlk hret at_194 (by decide) (1 : Int32) (by decide) (by decide) (by decide) Q881 rfl
      · refine f_iload A806 at_33 (pc' := 35) rfl rfl ?_
        refine f_ifY A806 at_35 ((if0 _ _).trans (feq (by decide : ¬ (2 : Int32) = (0 : Int32))).2) (pc' := 66) (by decide) (by decide) ?_
        refine f_iload A806 at_66 (pc' := 68) rfl rfl ?_
        refine f_iconst A806 at_68 (pc' := 69) rfl 1 rfl ?_
        refine f_icY A806 at_69 (feq (by decide : ¬ (2 : Int32) = (1 : Int32))).2 (pc' := 153) (by decide) (by decide) ?_
        refine f_iload A806 at_153 (pc' := 155) rfl rfl ?_
        refine f_iconst A806 at_155 (pc' := 156) rfl 2 rfl ?_
        refine f_icN A806 at_156 (teq (by decide : (2 : Int32) = (2 : Int32))).2 (pc' := 159) rfl ?_
        refine f_new A806 at_159 (pc' := 162) rfl (wd hw 31 rfl) (wd hw 6 rfl) (wd hw 5 rfl) (by decide) (by decide) fun a882 T882 h882 g882 A882 E882 X882 D882 => ?_
        have z882 : n0 ≤ a882 := Nat.le_trans A806.sz (Nat.le_of_eq g882.symm)
        have y882 : h0.size ≤ a882 := Nat.le_trans Q804.1 (Nat.le_of_eq g882.symm)
        have Q883 : Keep h0 h882 [] := Q804.ext E882
        have s882 := Safe.ext E882 (A806.ch rfl).1 (Safe.new (Nat.le_of_eq g882.symm))
        refine f_dup A882 at_162 (pc' := 163) rfl rfl ?_
        refine f_lloadN A882 at_163 (pc' := 164) rfl rfl ?_
        refine f_iloadN A882 at_164 (pc' := 165) rfl rfl ?_
        refine f_bipush A882 at_165 (pc' := 167) rfl 7 rfl ?_
        refine f_iand A882 at_167 (pc' := 168) rfl (2 : Int32) hn8 ?_
        refine f_callS A882 at_168 (pc' := 171) rfl (wd hw 118 rfl) (wd hw 119 rfl) (wd hw 2 rfl) (wd hw 120 rfl) (by decide) pd19 [(.long bytes), (.int (2 : Int32))] [(.ref a882), (.ref a882)] rfl rfl rfl 2 (Nat.le_of_eq rfl) (CN.pay (W := 2) A882 (m_dc2 l Z a0 hw bytes d0 d1 d2 d3 d4 d5 d6 h882 n0 A882.old hd0 rd0 hd1 rd1 hd2 rd2 hd3 rd3 hd4 rd4 hd5 rd5 hd6 rd6) (wd hw 120 rfl) (wd hw 2 rfl) (by decide) (by decide)) (kc := 1) (ks := 2) (by decide) (by decide) all0 (fun _ => sf0) fun v884 T884 h884 L884 A884 K884 q884 => ?_
        have Q885 : Keep h0 h884 [] := Q883.trans K884 all0
        obtain ⟨b884, kA884, rfl, bg884, V884⟩ := q884
        show Wp pG e below _ T884 (mkF m 171 _ [(.ref b884), (.ref a882), (.ref a882)])
        have c886 := (X882.keep K884)
        have c887 := ((show Fld Z h882 a882 "java/lang/String" "value" "[B" .null from D882 (Or.inr (wd hw 8 rfl)) (ty := (.array .byte)) (by decide)).keep K884 nin0)
        have c888 := ((show Fld Z h882 a882 "java/lang/String" "coder" "B" (.int (0 : Int32)) from D882 (Or.inr (wd hw 9 rfl)) (ty := .byte) (by decide)).keep K884 nin0)
        have c890 := (Safe.keep K884 sf0 (A882.ch rfl).1 s882)
        refine f_callI A884 (a := a882) at_171 (pc' := 174) rfl rfl (wd hw 61 rfl) (wd hw 62 rfl) (wd hw 63 rfl) (by decide) pd17 [(.ref b884)] [(.ref a882)] rfl rfl rfl 1 (Nat.le_of_eq rfl) (payNew (W := 1) A884 hw (wd hw 6 rfl) (cs := [d0, d1]) 2 z882 c886 c887 c888 V884 O2 P5 rfl rfl (by decide) (by decide) (lc (lat_of rd0) (lc (lat_of rd1) ln)) (by decide) (by decide)) (kc := 1) (ks := 2) (by decide) (by decide) (allS z882 all0) (fun _ => (sfS c890 sf0)) fun v889 T889 h889 L889 A889 K889 q889 => ?_
        have Q891 : Keep h0 h889 [] := Q885.trans K889 (allS (Or.inr y882) all0)
        obtain ⟨rfl, t889, tz889, tg889, tn889, G889⟩ := q889
        show Wp pG e below _ T889 (mkF m 174 _ [(.ref a882)])
        refine f_astore A889 at_174 (pc' := 176) rfl rfl (L' := #[.val (.int sel), .val (.int pos), .val (.int ch), .val (.long bytes), .second, .val (.int (2 : Int32)), .val (.int (2 : Int32)), .val (.ref w803), .val (.ref aM), .val (.int (4 : Int32)), .val (.ref a882), .unset, .unset, .unset, .unset]) rfl ?_
        refine f_aload A889 at_176 (pc' := 178) rfl rfl rfl ?_
        refine f_callS A889 at_178 (pc' := 181) rfl (wd hw 81 rfl) (wd hw 82 rfl) (wd hw 16 rfl) (wd hw 83 rfl) (by decide) pd18 [(.ref a882)] [] rfl rfl rfl 0 (Nat.le_of_eq rfl) (CN.pay (W := 0) A889 (m_fk l Z a0 hw aA aD aM aL vv a882 t889 [d0, d1] (vOf aA aD aM aL [d0, d1]) zc O2 P5 h889 n0 A889.old hV G889 rfl) (wd hw 83 rfl) (wd hw 16 rfl) (by decide) (by decide)) (kc := 1) (ks := 4) (by decide) (by decide) all0 (fun _ => sf0) fun v892 T892 h892 L892 A892 K892 q892 => ?_
        have Q893 : Keep h0 h892 [] := Q891.trans K892 all0
        obtain rfl := q892
        show Wp pG e below _ T892 (mkF m 181 _ [(vOf aA aD aM aL [d0, d1])])
        refine f_aload A892 at_181 (pc' := 183) rfl rfl rfl ?_
        have c894 := (G889.keep K892 nin0 nin0)
        refine f_callSW A892 at_183 (pc' := 186) rfl (wd hw 125 rfl) (wd hw 126 rfl) (wd hw 2 rfl) (wd hw 127 rfl) (by decide) pd18 [(.ref a882)] [(vOf aA aD aM aL [d0, d1])] rfl rfl rfl 1 (by show Value.category (vOf aA aD aM aL [d0, d1]) + 0 ≤ 1; rw [cat_ref (vOf_ref _ _ _ _ _)]; exact Nat.le_refl _) (CW.pay (W := 1) A892 hEL (m_ref l Z a0 hw aA aD aM aL vv a882 t889 [d0, d1] zc O2 P5 h892 n0 A892.old hEL hV c894) (wd hw 127 rfl) (wd hw 2 rfl) (by decide) (by decide) (fun _ q => nomatch q)) (kc := 8) (ks := 88) (by decide) (by decide) all0 fun v895 vm895 T895 h895 L895 A895 K895 C895 q895 => ?_
        have Q896 : Keep h0 h895 [] := Q893.trans K895 all0
        obtain rfl := q895
        show Wp pG e below _ T895 (mkF m 186 _ [(vOf aA aD aM aL [d0, d1]), (vOf aA aD aM aL [d0, d1])])
        refine f_acmp A895 (vOf_ref _ _ _ _ _) (vOf_ref _ _ _ _ _) at_186 true (decide_eq_true rfl) (by decide) (pc' := 189) (by decide) ?_
        refine f_iconst A895 at_189 (pc' := 190) rfl 1 rfl ?_
        refine f_goto A895 at_190 (pc' := 194) (by decide) (by decide) ?_
        exact f_retBW A895 hEL hlk hret at_194 (by decide) (1 : Int32) (by decide) (by decide) (by decide) Q896 rfl
      · refine f_iload A806 at_33 (pc' := 35) rfl rfl ?_
        refine f_ifY A806 at_35 ((if0 _ _).trans (feq (by decide : ¬ (2 : Int32) = (0 : Int32))).2) (pc' := 66) (by decide) (by decide) ?_
        refine f_iload A806 at_66 (pc' := 68) rfl rfl ?_
        refine f_iconst A806 at_68 (pc' := 69) rfl 1 rfl ?_
        refine f_icY A806 at_69 (feq (by decide : ¬ (2 : Int32) = (1 : Int32))).2 (pc' := 153) (by decide) (by decide) ?_
        refine f_iload A806 at_153 (pc' := 155) rfl rfl ?_
        refine f_iconst A806 at_155 (pc' := 156) rfl 2 rfl ?_
        refine f_icN A806 at_156 (teq (by decide : (2 : Int32) = (2 : Int32))).2 (pc' := 159) rfl ?_
        refine f_new A806 at_159 (pc' := 162) rfl (wd hw 31 rfl) (wd hw 6 rfl) (wd hw 5 rfl) (by decide) (by decide) fun a897 T897 h897 g897 A897 E897 X897 D897 => ?_
        have z897 : n0 ≤ a897 := Nat.le_trans A806.sz (Nat.le_of_eq g897.symm)
        have y897 : h0.size ≤ a897 := Nat.le_trans Q804.1 (Nat.le_of_eq g897.symm)
        have Q898 : Keep h0 h897 [] := Q804.ext E897
        have s897 := Safe.ext E897 (A806.ch rfl).1 (Safe.new (Nat.le_of_eq g897.symm))
        refine f_dup A897 at_162 (pc' := 163) rfl rfl ?_
        refine f_lloadN A897 at_163 (pc' := 164) rfl rfl ?_
        refine f_iloadN A897 at_164 (pc' := 165) rfl rfl ?_
        refine f_bipush A897 at_165 (pc' := 167) rfl 7 rfl ?_
        refine f_iand A897 at_167 (pc' := 168) rfl (3 : Int32) hn8 ?_
        refine f_callS A897 at_168 (pc' := 171) rfl (wd hw 118 rfl) (wd hw 119 rfl) (wd hw 2 rfl) (wd hw 120 rfl) (by decide) pd19 [(.long bytes), (.int (3 : Int32))] [(.ref a897), (.ref a897)] rfl rfl rfl 2 (Nat.le_of_eq rfl) (CN.pay (W := 2) A897 (m_dc3 l Z a0 hw bytes d0 d1 d2 d3 d4 d5 d6 h897 n0 A897.old hd0 rd0 hd1 rd1 hd2 rd2 hd3 rd3 hd4 rd4 hd5 rd5 hd6 rd6) (wd hw 120 rfl) (wd hw 2 rfl) (by decide) (by decide)) (kc := 1) (ks := 3) (by decide) (by decide) all0 (fun _ => sf0) fun v899 T899 h899 L899 A899 K899 q899 => ?_
        have Q900 : Keep h0 h899 [] := Q898.trans K899 all0
        obtain ⟨b899, kA899, rfl, bg899, V899⟩ := q899
        show Wp pG e below _ T899 (mkF m 171 _ [(.ref b899), (.ref a897), (.ref a897)])
        have c901 := (X897.keep K899)
        have c902 := ((show Fld Z h897 a897 "java/lang/String" "value" "[B" .null from D897 (Or.inr (wd hw 8 rfl)) (ty := (.array .byte)) (by decide)).keep K899 nin0)
        have c903 := ((show Fld Z h897 a897 "java/lang/String" "coder" "B" (.int (0 : Int32)) from D897 (Or.inr (wd hw 9 rfl)) (ty := .byte) (by decide)).keep K899 nin0)
        have c905 := (Safe.keep K899 sf0 (A897.ch rfl).1 s897)
        refine f_callI A899 (a := a897) at_171 (pc' := 174) rfl rfl (wd hw 61 rfl) (wd hw 62 rfl) (wd hw 63 rfl) (by decide) pd17 [(.ref b899)] [(.ref a897)] rfl rfl rfl 1 (Nat.le_of_eq rfl) (payNew (W := 1) A899 hw (wd hw 6 rfl) (cs := [d0, d1, d2]) 3 z897 c901 c902 c903 V899 O2 P5 rfl rfl (by decide) (by decide) (lc (lat_of rd0) (lc (lat_of rd1) (lc (lat_of rd2) ln))) (by decide) (by decide)) (kc := 1) (ks := 3) (by decide) (by decide) (allS z897 all0) (fun _ => (sfS c905 sf0)) fun v904 T904 h904 L904 A904 K904 q904 => ?_
        have Q906 : Keep h0 h904 [] := Q900.trans K904 (allS (Or.inr y897) all0)
        obtain ⟨rfl, t904, tz904, tg904, tn904, G904⟩ := q904
        show Wp pG e below _ T904 (mkF m 174 _ [(.ref a897)])
        refine f_astore A904 at_174 (pc' := 176) rfl rfl (L' := #[.val (.int sel), .val (.int pos), .val (.int ch), .val (.long bytes), .second, .val (.int (2 : Int32)), .val (.int (2 : Int32)), .val (.ref w803), .val (.ref aM), .val (.int (4 : Int32)), .val (.ref a897), .unset, .unset, .unset, .unset]) rfl ?_
        refine f_aload A904 at_176 (pc' := 178) rfl rfl rfl ?_
        refine f_callS A904 at_178 (pc' := 181) rfl (wd hw 81 rfl) (wd hw 82 rfl) (wd hw 16 rfl) (wd hw 83 rfl) (by decide) pd18 [(.ref a897)] [] rfl rfl rfl 0 (Nat.le_of_eq rfl) (CN.pay (W := 0) A904 (m_fk l Z a0 hw aA aD aM aL vv a897 t904 [d0, d1, d2] (vOf aA aD aM aL [d0, d1, d2]) zc O2 P5 h904 n0 A904.old hV G904 rfl) (wd hw 83 rfl) (wd hw 16 rfl) (by decide) (by decide)) (kc := 1) (ks := 4) (by decide) (by decide) all0 (fun _ => sf0) fun v907 T907 h907 L907 A907 K907 q907 => ?_
        have Q908 : Keep h0 h907 [] := Q906.trans K907 all0
        obtain rfl := q907
        show Wp pG e below _ T907 (mkF m 181 _ [(vOf aA aD aM aL [d0, d1, d2])])
        refine f_aload A907 at_181 (pc' := 183) rfl rfl rfl ?_
        have c909 := (G904.keep K907 nin0 nin0)
        refine f_callSW A907 at_183 (pc' := 186) rfl (wd hw 125 rfl) (wd hw 126 rfl) (wd hw 2 rfl) (wd hw 127 rfl) (by decide) pd18 [(.ref a897)] [(vOf aA aD aM aL [d0, d1, d2])] rfl rfl rfl 1 (by show Value.category (vOf aA aD aM aL [d0, d1, d2]) + 0 ≤ 1; rw [cat_ref (vOf_ref _ _ _ _ _)]; exact Nat.le_refl _) (CW.pay (W := 1) A907 hEL (m_ref l Z a0 hw aA aD aM aL vv a897 t904 [d0, d1, d2] zc O2 P5 h907 n0 A907.old hEL hV c909) (wd hw 127 rfl) (wd hw 2 rfl) (by decide) (by decide) (fun _ q => nomatch q)) (kc := 8) (ks := 88) (by decide) (by decide) all0 fun v910 vm910 T910 h910 L910 A910 K910 C910 q910 => ?_
        have Q911 : Keep h0 h910 [] := Q908.trans K910 all0
        obtain rfl := q910
        show Wp pG e below _ T910 (mkF m 186 _ [(vOf aA aD aM aL [d0, d1, d2]), (vOf aA aD aM aL [d0, d1, d2])])
        refine f_acmp A910 (vOf_ref _ _ _ _ _) (vOf_ref _ _ _ _ _) at_186 true (decide_eq_true rfl) (by decide) (pc' := 189) (by decide) ?_
        refine f_iconst A910 at_189 (pc' := 190) rfl 1 rfl ?_
        refine f_goto A910 at_190 (pc' := 194) (by decide) (by decide) ?_
        exact f_retBW A910 hEL hlk hret at_194 (by decide) (1 : Int32) (by decide) (by decide) (by decide) Q911 rfl
      · refine f_iload A806 at_33 (pc' := 35) rfl rfl ?_
        refine f_ifY A806 at_35 ((if0 _ _).trans (feq (by decide : ¬ (2 : Int32) = (0 : Int32))).2) (pc' := 66) (by decide) (by decide) ?_
        refine f_iload A806 at_66 (pc' := 68) rfl rfl ?_
        refine f_iconst A806 at_68 (pc' := 69) rfl 1 rfl ?_
        refine f_icY A806 at_69 (feq (by decide : ¬ (2 : Int32) = (1 : Int32))).2 (pc' := 153) (by decide) (by decide) ?_
        refine f_iload A806 at_153 (pc' := 155) rfl rfl ?_
        refine f_iconst A806 at_155 (pc' := 156) rfl 2 rfl ?_
        refine f_icN A806 at_156 (teq (by decide : (2 : Int32) = (2 : Int32))).2 (pc' := 159) rfl ?_
        refine f_new A806 at_159 (pc' := 162) rfl (wd hw 31 rfl) (wd hw 6 rfl) (wd hw 5 rfl) (by decide) (by decide) fun a912 T912 h912 g912 A912 E912 X912 D912 => ?_
        have z912 : n0 ≤ a912 := Nat.le_trans A806.sz (Nat.le_of_eq g912.symm)
        have y912 : h0.size ≤ a912 := Nat.le_trans Q804.1 (Nat.le_of_eq g912.symm)
        have Q913 : Keep h0 h912 [] := Q804.ext E912
        have s912 := Safe.ext E912 (A806.ch rfl).1 (Safe.new (Nat.le_of_eq g912.symm))
        refine f_dup A912 at_162 (pc' := 163) rfl rfl ?_
        refine f_lloadN A912 at_163 (pc' := 164) rfl rfl ?_
        refine f_iloadN A912 at_164 (pc' := 165) rfl rfl ?_
        refine f_bipush A912 at_165 (pc' := 167) rfl 7 rfl ?_
        refine f_iand A912 at_167 (pc' := 168) rfl (4 : Int32) hn8 ?_
        refine f_callS A912 at_168 (pc' := 171) rfl (wd hw 118 rfl) (wd hw 119 rfl) (wd hw 2 rfl) (wd hw 120 rfl) (by decide) pd19 [(.long bytes), (.int (4 : Int32))] [(.ref a912), (.ref a912)] rfl rfl rfl 2 (Nat.le_of_eq rfl) (CN.pay (W := 2) A912 (m_dc4 l Z a0 hw bytes d0 d1 d2 d3 d4 d5 d6 h912 n0 A912.old hd0 rd0 hd1 rd1 hd2 rd2 hd3 rd3 hd4 rd4 hd5 rd5 hd6 rd6) (wd hw 120 rfl) (wd hw 2 rfl) (by decide) (by decide)) (kc := 1) (ks := 4) (by decide) (by decide) all0 (fun _ => sf0) fun v914 T914 h914 L914 A914 K914 q914 => ?_
        have Q915 : Keep h0 h914 [] := Q913.trans K914 all0
        obtain ⟨b914, kA914, rfl, bg914, V914⟩ := q914
        show Wp pG e below _ T914 (mkF m 171 _ [(.ref b914), (.ref a912), (.ref a912)])
        have c916 := (X912.keep K914)
        have c917 := ((show Fld Z h912 a912 "java/lang/String" "value" "[B" .null from D912 (Or.inr (wd hw 8 rfl)) (ty := (.array .byte)) (by decide)).keep K914 nin0)
        have c918 := ((show Fld Z h912 a912 "java/lang/String" "coder" "B" (.int (0 : Int32)) from D912 (Or.inr (wd hw 9 rfl)) (ty := .byte) (by decide)).keep K914 nin0)
        have c920 := (Safe.keep K914 sf0 (A912.ch rfl).1 s912)
        refine f_callI A914 (a := a912) at_171 (pc' := 174) rfl rfl (wd hw 61 rfl) (wd hw 62 rfl) (wd hw 63 rfl) (by decide) pd17 [(.ref b914)] [(.ref a912)] rfl rfl rfl 1 (Nat.le_of_eq rfl) (payNew (W := 1) A914 hw (wd hw 6 rfl) (cs := [d0, d1, d2, d3]) 4 z912 c916 c917 c918 V914 O2 P5 rfl rfl (by decide) (by decide) (lc (lat_of rd0) (lc (lat_of rd1) (lc (lat_of rd2) (lc (lat_of rd3) ln)))) (by decide) (by decide)) (kc := 1) (ks := 4) (by decide) (by decide) (allS z912 all0) (fun _ => (sfS c920 sf0)) fun v919 T919 h919 L919 A919 K919 q919 => ?_
        have Q921 : Keep h0 h919 [] := Q915.trans K919 (allS (Or.inr y912) all0)
        obtain ⟨rfl, t919, tz919, tg919, tn919, G919⟩ := q919
        show Wp pG e below _ T919 (mkF m 174 _ [(.ref a912)])
        refine f_astore A919 at_174 (pc' := 176) rfl rfl (L' := #[.val (.int sel), .val (.int pos), .val (.int ch), .val (.long bytes), .second, .val (.int (2 : Int32)), .val (.int (2 : Int32)), .val (.ref w803), .val (.ref aM), .val (.int (4 : Int32)), .val (.ref a912), .unset, .unset, .unset, .unset]) rfl ?_
        refine f_aload A919 at_176 (pc' := 178) rfl rfl rfl ?_
        refine f_callS A919 at_178 (pc' := 181) rfl (wd hw 81 rfl) (wd hw 82 rfl) (wd hw 16 rfl) (wd hw 83 rfl) (by decide) pd18 [(.ref a912)] [] rfl rfl rfl 0 (Nat.le_of_eq rfl) (CN.pay (W := 0) A919 (m_fk l Z a0 hw aA aD aM aL vv a912 t919 [d0, d1, d2, d3] (vOf aA aD aM aL [d0, d1, d2, d3]) zc O2 P5 h919 n0 A919.old hV G919 rfl) (wd hw 83 rfl) (wd hw 16 rfl) (by decide) (by decide)) (kc := 1) (ks := 4) (by decide) (by decide) all0 (fun _ => sf0) fun v922 T922 h922 L922 A922 K922 q922 => ?_
        have Q923 : Keep h0 h922 [] := Q921.trans K922 all0
        obtain rfl := q922
        show Wp pG e below _ T922 (mkF m 181 _ [(vOf aA aD aM aL [d0, d1, d2, d3])])
        refine f_aload A922 at_181 (pc' := 183) rfl rfl rfl ?_
        have c924 := (G919.keep K922 nin0 nin0)
        refine f_callSW A922 at_183 (pc' := 186) rfl (wd hw 125 rfl) (wd hw 126 rfl) (wd hw 2 rfl) (wd hw 127 rfl) (by decide) pd18 [(.ref a912)] [(vOf aA aD aM aL [d0, d1, d2, d3])] rfl rfl rfl 1 (by show Value.category (vOf aA aD aM aL [d0, d1, d2, d3]) + 0 ≤ 1; rw [cat_ref (vOf_ref _ _ _ _ _)]; exact Nat.le_refl _) (CW.pay (W := 1) A922 hEL (m_ref l Z a0 hw aA aD aM aL vv a912 t919 [d0, d1, d2, d3] zc O2 P5 h922 n0 A922.old hEL hV c924) (wd hw 127 rfl) (wd hw 2 rfl) (by decide) (by decide) (fun _ q => nomatch q)) (kc := 8) (ks := 88) (by decide) (by decide) all0 fun v925 vm925 T925 h925 L925 A925 K925 C925 q925 => ?_
        have Q926 : Keep h0 h925 [] := Q923.trans K925 all0
        obtain rfl := q925
        show Wp pG e below _ T925 (mkF m 186 _ [(vOf aA aD aM aL [d0, d1, d2, d3]), (vOf aA aD aM aL [d0, d1, d2, d3])])
        refine f_acmp A925 (vOf_ref _ _ _ _ _) (vOf_ref _ _ _ _ _) at_186 true (decide_eq_true rfl) (by decide) (pc' := 189) (by decide) ?_
        refine f_iconst A925 at_189 (pc' := 190) rfl 1 rfl ?_
        refine f_goto A925 at_190 (pc' := 194) (by decide) (by decide) ?_
        exact f_retBW A925 hEL hlk hret at_194 (by decide) (1 : Int32) (by decide) (by decide) (by decide) Q926 rfl
      · refine f_iload A806 at_33 (pc' := 35) rfl rfl ?_
        refine f_ifY A806 at_35 ((if0 _ _).trans (feq (by decide : ¬ (2 : Int32) = (0 : Int32))).2) (pc' := 66) (by decide) (by decide) ?_
        refine f_iload A806 at_66 (pc' := 68) rfl rfl ?_
        refine f_iconst A806 at_68 (pc' := 69) rfl 1 rfl ?_
        refine f_icY A806 at_69 (feq (by decide : ¬ (2 : Int32) = (1 : Int32))).2 (pc' := 153) (by decide) (by decide) ?_
        refine f_iload A806 at_153 (pc' := 155) rfl rfl ?_
        refine f_iconst A806 at_155 (pc' := 156) rfl 2 rfl ?_
        refine f_icN A806 at_156 (teq (by decide : (2 : Int32) = (2 : Int32))).2 (pc' := 159) rfl ?_
        refine f_new A806 at_159 (pc' := 162) rfl (wd hw 31 rfl) (wd hw 6 rfl) (wd hw 5 rfl) (by decide) (by decide) fun a927 T927 h927 g927 A927 E927 X927 D927 => ?_
        have z927 : n0 ≤ a927 := Nat.le_trans A806.sz (Nat.le_of_eq g927.symm)
        have y927 : h0.size ≤ a927 := Nat.le_trans Q804.1 (Nat.le_of_eq g927.symm)
        have Q928 : Keep h0 h927 [] := Q804.ext E927
        have s927 := Safe.ext E927 (A806.ch rfl).1 (Safe.new (Nat.le_of_eq g927.symm))
        refine f_dup A927 at_162 (pc' := 163) rfl rfl ?_
        refine f_lloadN A927 at_163 (pc' := 164) rfl rfl ?_
        refine f_iloadN A927 at_164 (pc' := 165) rfl rfl ?_
        refine f_bipush A927 at_165 (pc' := 167) rfl 7 rfl ?_
        refine f_iand A927 at_167 (pc' := 168) rfl (5 : Int32) hn8 ?_
        refine f_callS A927 at_168 (pc' := 171) rfl (wd hw 118 rfl) (wd hw 119 rfl) (wd hw 2 rfl) (wd hw 120 rfl) (by decide) pd19 [(.long bytes), (.int (5 : Int32))] [(.ref a927), (.ref a927)] rfl rfl rfl 2 (Nat.le_of_eq rfl) (CN.pay (W := 2) A927 (m_dc5 l Z a0 hw bytes d0 d1 d2 d3 d4 d5 d6 h927 n0 A927.old hd0 rd0 hd1 rd1 hd2 rd2 hd3 rd3 hd4 rd4 hd5 rd5 hd6 rd6) (wd hw 120 rfl) (wd hw 2 rfl) (by decide) (by decide)) (kc := 1) (ks := 5) (by decide) (by decide) all0 (fun _ => sf0) fun v929 T929 h929 L929 A929 K929 q929 => ?_
        have Q930 : Keep h0 h929 [] := Q928.trans K929 all0
        obtain ⟨b929, kA929, rfl, bg929, V929⟩ := q929
        show Wp pG e below _ T929 (mkF m 171 _ [(.ref b929), (.ref a927), (.ref a927)])
        have c931 := (X927.keep K929)
        have c932 := ((show Fld Z h927 a927 "java/lang/String" "value" "[B" .null from D927 (Or.inr (wd hw 8 rfl)) (ty := (.array .byte)) (by decide)).keep K929 nin0)
        have c933 := ((show Fld Z h927 a927 "java/lang/String" "coder" "B" (.int (0 : Int32)) from D927 (Or.inr (wd hw 9 rfl)) (ty := .byte) (by decide)).keep K929 nin0)
        have c935 := (Safe.keep K929 sf0 (A927.ch rfl).1 s927)
        refine f_callI A929 (a := a927) at_171 (pc' := 174) rfl rfl (wd hw 61 rfl) (wd hw 62 rfl) (wd hw 63 rfl) (by decide) pd17 [(.ref b929)] [(.ref a927)] rfl rfl rfl 1 (Nat.le_of_eq rfl) (payNew (W := 1) A929 hw (wd hw 6 rfl) (cs := [d0, d1, d2, d3, d4]) 5 z927 c931 c932 c933 V929 O2 P5 rfl rfl (by decide) (by decide) (lc (lat_of rd0) (lc (lat_of rd1) (lc (lat_of rd2) (lc (lat_of rd3) (lc (lat_of rd4) ln))))) (by decide) (by decide)) (kc := 1) (ks := 5) (by decide) (by decide) (allS z927 all0) (fun _ => (sfS c935 sf0)) fun v934 T934 h934 L934 A934 K934 q934 => ?_
        have Q936 : Keep h0 h934 [] := Q930.trans K934 (allS (Or.inr y927) all0)
        obtain ⟨rfl, t934, tz934, tg934, tn934, G934⟩ := q934
        show Wp pG e below _ T934 (mkF m 174 _ [(.ref a927)])
        refine f_astore A934 at_174 (pc' := 176) rfl rfl (L' := #[.val (.int sel), .val (.int pos), .val (.int ch), .val (.long bytes), .second, .val (.int (2 : Int32)), .val (.int (2 : Int32)), .val (.ref w803), .val (.ref aM), .val (.int (4 : Int32)), .val (.ref a927), .unset, .unset, .unset, .unset]) rfl ?_
        refine f_aload A934 at_176 (pc' := 178) rfl rfl rfl ?_
        refine f_callS A934 at_178 (pc' := 181) rfl (wd hw 81 rfl) (wd hw 82 rfl) (wd hw 16 rfl) (wd hw 83 rfl) (by decide) pd18 [(.ref a927)] [] rfl rfl rfl 0 (Nat.le_of_eq rfl) (CN.pay (W := 0) A934 (m_fk l Z a0 hw aA aD aM aL vv a927 t934 [d0, d1, d2, d3, d4] (vOf aA aD aM aL [d0, d1, d2, d3, d4]) zc O2 P5 h934 n0 A934.old hV G934 rfl) (wd hw 83 rfl) (wd hw 16 rfl) (by decide) (by decide)) (kc := 1) (ks := 4) (by decide) (by decide) all0 (fun _ => sf0) fun v937 T937 h937 L937 A937 K937 q937 => ?_
        have Q938 : Keep h0 h937 [] := Q936.trans K937 all0
        obtain rfl := q937
        show Wp pG e below _ T937 (mkF m 181 _ [(vOf aA aD aM aL [d0, d1, d2, d3, d4])])
        refine f_aload A937 at_181 (pc' := 183) rfl rfl rfl ?_
        have c939 := (G934.keep K937 nin0 nin0)
        refine f_callSW A937 at_183 (pc' := 186) rfl (wd hw 125 rfl) (wd hw 126 rfl) (wd hw 2 rfl) (wd hw 127 rfl) (by decide) pd18 [(.ref a927)] [(vOf aA aD aM aL [d0, d1, d2, d3, d4])] rfl rfl rfl 1 (by show Value.category (vOf aA aD aM aL [d0, d1, d2, d3, d4]) + 0 ≤ 1; rw [cat_ref (vOf_ref _ _ _ _ _)]; exact Nat.le_refl _) (CW.pay (W := 1) A937 hEL (m_ref l Z a0 hw aA aD aM aL vv a927 t934 [d0, d1, d2, d3, d4] zc O2 P5 h937 n0 A937.old hEL hV c939) (wd hw 127 rfl) (wd hw 2 rfl) (by decide) (by decide) (fun _ q => nomatch q)) (kc := 8) (ks := 88) (by decide) (by decide) all0 fun v940 vm940 T940 h940 L940 A940 K940 C940 q940 => ?_
        have Q941 : Keep h0 h940 [] := Q938.trans K940 all0
        obtain rfl := q940
        show Wp pG e below _ T940 (mkF m 186 _ [(vOf aA aD aM aL [d0, d1, d2, d3, d4]), (vOf aA aD aM aL [d0, d1, d2, d3, d4])])
        refine f_acmp A940 (vOf_ref _ _ _ _ _) (vOf_ref _ _ _ _ _) at_186 true (decide_eq_true rfl) (by decide) (pc' := 189) (by decide) ?_
        refine f_iconst A940 at_189 (pc' := 190) rfl 1 rfl ?_
        refine f_goto A940 at_190 (pc' := 194) (by decide) (by decide) ?_
        exact f_retBW A940 hEL hlk hret at_194 (by decide) (1 : Int32) (by decide) (by decide) (by decide) Q941 rfl
      · refine f_iload A806 at_33 (pc' := 35) rfl rfl ?_
        refine f_ifY A806 at_35 ((if0 _ _).trans (feq (by decide : ¬ (2 : Int32) = (0 : Int32))).2) (pc' := 66) (by decide) (by decide) ?_
        refine f_iload A806 at_66 (pc' := 68) rfl rfl ?_
        refine f_iconst A806 at_68 (pc' := 69) rfl 1 rfl ?_
        refine f_icY A806 at_69 (feq (by decide : ¬ (2 : Int32) = (1 : Int32))).2 (pc' := 153) (by decide) (by decide) ?_
        refine f_iload A806 at_153 (pc' := 155) rfl rfl ?_
        refine f_iconst A806 at_155 (pc' := 156) rfl 2 rfl ?_
        refine f_icN A806 at_156 (teq (by decide : (2 : Int32) = (2 : Int32))).2 (pc' := 159) rfl ?_
        refine f_new A806 at_159 (pc' := 162) rfl (wd hw 31 rfl) (wd hw 6 rfl) (wd hw 5 rfl) (by decide) (by decide) fun a942 T942 h942 g942 A942 E942 X942 D942 => ?_
        have z942 : n0 ≤ a942 := Nat.le_trans A806.sz (Nat.le_of_eq g942.symm)
        have y942 : h0.size ≤ a942 := Nat.le_trans Q804.1 (Nat.le_of_eq g942.symm)
        have Q943 : Keep h0 h942 [] := Q804.ext E942
        have s942 := Safe.ext E942 (A806.ch rfl).1 (Safe.new (Nat.le_of_eq g942.symm))
        refine f_dup A942 at_162 (pc' := 163) rfl rfl ?_
        refine f_lloadN A942 at_163 (pc' := 164) rfl rfl ?_
        refine f_iloadN A942 at_164 (pc' := 165) rfl rfl ?_
        refine f_bipush A942 at_165 (pc' := 167) rfl 7 rfl ?_
        refine f_iand A942 at_167 (pc' := 168) rfl (6 : Int32) hn8 ?_
        refine f_callS A942 at_168 (pc' := 171) rfl (wd hw 118 rfl) (wd hw 119 rfl) (wd hw 2 rfl) (wd hw 120 rfl) (by decide) pd19 [(.long bytes), (.int (6 : Int32))] [(.ref a942), (.ref a942)] rfl rfl rfl 2 (Nat.le_of_eq rfl) (CN.pay (W := 2) A942 (m_dc6 l Z a0 hw bytes d0 d1 d2 d3 d4 d5 d6 h942 n0 A942.old hd0 rd0 hd1 rd1 hd2 rd2 hd3 rd3 hd4 rd4 hd5 rd5 hd6 rd6) (wd hw 120 rfl) (wd hw 2 rfl) (by decide) (by decide)) (kc := 1) (ks := 6) (by decide) (by decide) all0 (fun _ => sf0) fun v944 T944 h944 L944 A944 K944 q944 => ?_
        have Q945 : Keep h0 h944 [] := Q943.trans K944 all0
        obtain ⟨b944, kA944, rfl, bg944, V944⟩ := q944
        show Wp pG e below _ T944 (mkF m 171 _ [(.ref b944), (.ref a942), (.ref a942)])
        have c946 := (X942.keep K944)
        have c947 := ((show Fld Z h942 a942 "java/lang/String" "value" "[B" .null from D942 (Or.inr (wd hw 8 rfl)) (ty := (.array .byte)) (by decide)).keep K944 nin0)
        have c948 := ((show Fld Z h942 a942 "java/lang/String" "coder" "B" (.int (0 : Int32)) from D942 (Or.inr (wd hw 9 rfl)) (ty := .byte) (by decide)).keep K944 nin0)
        have c950 := (Safe.keep K944 sf0 (A942.ch rfl).1 s942)
        refine f_callI A944 (a := a942) at_171 (pc' := 174) rfl rfl (wd hw 61 rfl) (wd hw 62 rfl) (wd hw 63 rfl) (by decide) pd17 [(.ref b944)] [(.ref a942)] rfl rfl rfl 1 (Nat.le_of_eq rfl) (payNew (W := 1) A944 hw (wd hw 6 rfl) (cs := [d0, d1, d2, d3, d4, d5]) 6 z942 c946 c947 c948 V944 O2 P5 rfl rfl (by decide) (by decide) (lc (lat_of rd0) (lc (lat_of rd1) (lc (lat_of rd2) (lc (lat_of rd3) (lc (lat_of rd4) (lc (lat_of rd5) ln)))))) (by decide) (by decide)) (kc := 1) (ks := 6) (by decide) (by decide) (allS z942 all0) (fun _ => (sfS c950 sf0)) fun v949 T949 h949 L949 A949 K949 q949 => ?_
        have Q951 : Keep h0 h949 [] := Q945.trans K949 (allS (Or.inr y942) all0)
        obtain ⟨rfl, t949, tz949, tg949, tn949, G949⟩ := q949
        show Wp pG e below _ T949 (mkF m 174 _ [(.ref a942)])
        refine f_astore A949 at_174 (pc' := 176) rfl rfl (L' := #[.val (.int sel), .val (.int pos), .val (.int ch), .val (.long bytes), .second, .val (.int (2 : Int32)), .val (.int (2 : Int32)), .val (.ref w803), .val (.ref aM), .val (.int (4 : Int32)), .val (.ref a942), .unset, .unset, .unset, .unset]) rfl ?_
        refine f_aload A949 at_176 (pc' := 178) rfl rfl rfl ?_
        refine f_callS A949 at_178 (pc' := 181) rfl (wd hw 81 rfl) (wd hw 82 rfl) (wd hw 16 rfl) (wd hw 83 rfl) (by decide) pd18 [(.ref a942)] [] rfl rfl rfl 0 (Nat.le_of_eq rfl) (CN.pay (W := 0) A949 (m_fk l Z a0 hw aA aD aM aL vv a942 t949 [d0, d1, d2, d3, d4, d5] (vOf aA aD aM aL [d0, d1, d2, d3, d4, d5]) zc O2 P5 h949 n0 A949.old hV G949 rfl) (wd hw 83 rfl) (wd hw 16 rfl) (by decide) (by decide)) (kc := 1) (ks := 4) (by decide) (by decide) all0 (fun _ => sf0) fun v952 T952 h952 L952 A952 K952 q952 => ?_
        have Q953 : Keep h0 h952 [] := Q951.trans K952 all0
        obtain rfl := q952
        show Wp pG e below _ T952 (mkF m 181 _ [(vOf aA aD aM aL [d0, d1, d2, d3, d4, d5])])
        refine f_aload A952 at_181 (pc' := 183) rfl rfl rfl ?_
        have c954 := (G949.keep K952 nin0 nin0)
        refine f_callSW A952 at_183 (pc' := 186) rfl (wd hw 125 rfl) (wd hw 126 rfl) (wd hw 2 rfl) (wd hw 127 rfl) (by decide) pd18 [(.ref a942)] [(vOf aA aD aM aL [d0, d1, d2, d3, d4, d5])] rfl rfl rfl 1 (by show Value.category (vOf aA aD aM aL [d0, d1, d2, d3, d4, d5]) + 0 ≤ 1; rw [cat_ref (vOf_ref _ _ _ _ _)]; exact Nat.le_refl _) (CW.pay (W := 1) A952 hEL (m_ref l Z a0 hw aA aD aM aL vv a942 t949 [d0, d1, d2, d3, d4, d5] zc O2 P5 h952 n0 A952.old hEL hV c954) (wd hw 127 rfl) (wd hw 2 rfl) (by decide) (by decide) (fun _ q => nomatch q)) (kc := 8) (ks := 88) (by decide) (by decide) all0 fun v955 vm955 T955 h955 L955 A955 K955 C955 q955 => ?_
        have Q956 : Keep h0 h955 [] := Q953.trans K955 all0
        obtain rfl := q955
        show Wp pG e below _ T955 (mkF m 186 _ [(vOf aA aD aM aL [d0, d1, d2, d3, d4, d5]), (vOf aA aD aM aL [d0, d1, d2, d3, d4, d5])])
        refine f_acmp A955 (vOf_ref _ _ _ _ _) (vOf_ref _ _ _ _ _) at_186 true (decide_eq_true rfl) (by decide) (pc' := 189) (by decide) ?_
        refine f_iconst A955 at_189 (pc' := 190) rfl 1 rfl ?_
        refine f_goto A955 at_190 (pc' := 194) (by decide) (by decide) ?_
        exact f_retBW A955 hEL hlk hret at_194 (by decide) (1 : Int32) (by decide) (by decide) (by decide) Q956 rfl
      · refine f_iload A806 at_33 (pc' := 35) rfl rfl ?_
        refine f_ifY A806 at_35 ((if0 _ _).trans (feq (by decide : ¬ (2 : Int32) = (0 : Int32))).2) (pc' := 66) (by decide) (by decide) ?_
        refine f_iload A806 at_66 (pc' := 68) rfl rfl ?_
        refine f_iconst A806 at_68 (pc' := 69) rfl 1 rfl ?_
        refine f_icY A806 at_69 (feq (by decide : ¬ (2 : Int32) = (1 : Int32))).2 (pc' := 153) (by decide) (by decide) ?_
        refine f_iload A806 at_153 (pc' := 155) rfl rfl ?_
        refine f_iconst A806 at_155 (pc' := 156) rfl 2 rfl ?_
        refine f_icN A806 at_156 (teq (by decide : (2 : Int32) = (2 : Int32))).2 (pc' := 159) rfl ?_
        refine f_new A806 at_159 (pc' := 162) rfl (wd hw 31 rfl) (wd hw 6 rfl) (wd hw 5 rfl) (by decide) (by decide) fun a957 T957 h957 g957 A957 E957 X957 D957 => ?_
        have z957 : n0 ≤ a957 := Nat.le_trans A806.sz (Nat.le_of_eq g957.symm)
        have y957 : h0.size ≤ a957 := Nat.le_trans Q804.1 (Nat.le_of_eq g957.symm)
        have Q958 : Keep h0 h957 [] := Q804.ext E957
        have s957 := Safe.ext E957 (A806.ch rfl).1 (Safe.new (Nat.le_of_eq g957.symm))
        refine f_dup A957 at_162 (pc' := 163) rfl rfl ?_
        refine f_lloadN A957 at_163 (pc' := 164) rfl rfl ?_
        refine f_iloadN A957 at_164 (pc' := 165) rfl rfl ?_
        refine f_bipush A957 at_165 (pc' := 167) rfl 7 rfl ?_
        refine f_iand A957 at_167 (pc' := 168) rfl (7 : Int32) hn8 ?_
        refine f_callS A957 at_168 (pc' := 171) rfl (wd hw 118 rfl) (wd hw 119 rfl) (wd hw 2 rfl) (wd hw 120 rfl) (by decide) pd19 [(.long bytes), (.int (7 : Int32))] [(.ref a957), (.ref a957)] rfl rfl rfl 2 (Nat.le_of_eq rfl) (CN.pay (W := 2) A957 (m_dc7 l Z a0 hw bytes d0 d1 d2 d3 d4 d5 d6 h957 n0 A957.old hd0 rd0 hd1 rd1 hd2 rd2 hd3 rd3 hd4 rd4 hd5 rd5 hd6 rd6) (wd hw 120 rfl) (wd hw 2 rfl) (by decide) (by decide)) (kc := 1) (ks := 7) (by decide) (by decide) all0 (fun _ => sf0) fun v959 T959 h959 L959 A959 K959 q959 => ?_
        have Q960 : Keep h0 h959 [] := Q958.trans K959 all0
        obtain ⟨b959, kA959, rfl, bg959, V959⟩ := q959
        show Wp pG e below _ T959 (mkF m 171 _ [(.ref b959), (.ref a957), (.ref a957)])
        have c961 := (X957.keep K959)
        have c962 := ((show Fld Z h957 a957 "java/lang/String" "value" "[B" .null from D957 (Or.inr (wd hw 8 rfl)) (ty := (.array .byte)) (by decide)).keep K959 nin0)
        have c963 := ((show Fld Z h957 a957 "java/lang/String" "coder" "B" (.int (0 : Int32)) from D957 (Or.inr (wd hw 9 rfl)) (ty := .byte) (by decide)).keep K959 nin0)
        have c965 := (Safe.keep K959 sf0 (A957.ch rfl).1 s957)
        refine f_callI A959 (a := a957) at_171 (pc' := 174) rfl rfl (wd hw 61 rfl) (wd hw 62 rfl) (wd hw 63 rfl) (by decide) pd17 [(.ref b959)] [(.ref a957)] rfl rfl rfl 1 (Nat.le_of_eq rfl) (payNew (W := 1) A959 hw (wd hw 6 rfl) (cs := [d0, d1, d2, d3, d4, d5, d6]) 7 z957 c961 c962 c963 V959 O2 P5 rfl rfl (by decide) (by decide) (lc (lat_of rd0) (lc (lat_of rd1) (lc (lat_of rd2) (lc (lat_of rd3) (lc (lat_of rd4) (lc (lat_of rd5) (lc (lat_of rd6) ln))))))) (by decide) (by decide)) (kc := 1) (ks := 7) (by decide) (by decide) (allS z957 all0) (fun _ => (sfS c965 sf0)) fun v964 T964 h964 L964 A964 K964 q964 => ?_
        have Q966 : Keep h0 h964 [] := Q960.trans K964 (allS (Or.inr y957) all0)
        obtain ⟨rfl, t964, tz964, tg964, tn964, G964⟩ := q964
        show Wp pG e below _ T964 (mkF m 174 _ [(.ref a957)])
        refine f_astore A964 at_174 (pc' := 176) rfl rfl (L' := #[.val (.int sel), .val (.int pos), .val (.int ch), .val (.long bytes), .second, .val (.int (2 : Int32)), .val (.int (2 : Int32)), .val (.ref w803), .val (.ref aM), .val (.int (4 : Int32)), .val (.ref a957), .unset, .unset, .unset, .unset]) rfl ?_
        refine f_aload A964 at_176 (pc' := 178) rfl rfl rfl ?_
        refine f_callS A964 at_178 (pc' := 181) rfl (wd hw 81 rfl) (wd hw 82 rfl) (wd hw 16 rfl) (wd hw 83 rfl) (by decide) pd18 [(.ref a957)] [] rfl rfl rfl 0 (Nat.le_of_eq rfl) (CN.pay (W := 0) A964 (m_fk l Z a0 hw aA aD aM aL vv a957 t964 [d0, d1, d2, d3, d4, d5, d6] (vOf aA aD aM aL [d0, d1, d2, d3, d4, d5, d6]) zc O2 P5 h964 n0 A964.old hV G964 rfl) (wd hw 83 rfl) (wd hw 16 rfl) (by decide) (by decide)) (kc := 1) (ks := 4) (by decide) (by decide) all0 (fun _ => sf0) fun v967 T967 h967 L967 A967 K967 q967 => ?_
        have Q968 : Keep h0 h967 [] := Q966.trans K967 all0
        obtain rfl := q967
        show Wp pG e below _ T967 (mkF m 181 _ [(vOf aA aD aM aL [d0, d1, d2, d3, d4, d5, d6])])
        refine f_aload A967 at_181 (pc' := 183) rfl rfl rfl ?_
        have c969 := (G964.keep K967 nin0 nin0)
        refine f_callSW A967 at_183 (pc' := 186) rfl (wd hw 125 rfl) (wd hw 126 rfl) (wd hw 2 rfl) (wd hw 127 rfl) (by decide) pd18 [(.ref a957)] [(vOf aA aD aM aL [d0, d1, d2, d3, d4, d5, d6])] rfl rfl rfl 1 (by show Value.category (vOf aA aD aM aL [d0, d1, d2, d3, d4, d5, d6]) + 0 ≤ 1; rw [cat_ref (vOf_ref _ _ _ _ _)]; exact Nat.le_refl _) (CW.pay (W := 1) A967 hEL (m_ref l Z a0 hw aA aD aM aL vv a957 t964 [d0, d1, d2, d3, d4, d5, d6] zc O2 P5 h967 n0 A967.old hEL hV c969) (wd hw 127 rfl) (wd hw 2 rfl) (by decide) (by decide) (fun _ q => nomatch q)) (kc := 8) (ks := 88) (by decide) (by decide) all0 fun v970 vm970 T970 h970 L970 A970 K970 C970 q970 => ?_
        have Q971 : Keep h0 h970 [] := Q968.trans K970 all0
        obtain rfl := q970
        show Wp pG e below _ T970 (mkF m 186 _ [(vOf aA aD aM aL [d0, d1, d2, d3, d4, d5, d6]), (vOf aA aD aM aL [d0, d1, d2, d3, d4, d5, d6])])
        refine f_acmp A970 (vOf_ref _ _ _ _ _) (vOf_ref _ _ _ _ _) at_186 true (decide_eq_true rfl) (by decide) (pc' := 189) (by decide) ?_
        refine f_iconst A970 at_189 (pc' := 190) rfl 1 rfl ?_
        refine f_goto A970 at_190 (pc' := 194) (by decide) (by decide) ?_
        exact f_retBW A970 hEL hlk hret at_194 (by decide) (1 : Int32) (by decide) (by decide) (by decide) Q971 rfl
    · refine f_iload A806 at_33 (pc' := 35) rfl rfl ?_
      refine f_ifY A806 at_35 ((if0 _ _).trans (feq (by decide : ¬ (3 : Int32) = (0 : Int32))).2) (pc' := 66) (by decide) (by decide) ?_
      refine f_iload A806 at_66 (pc' := 68) rfl rfl ?_
      refine f_iconst A806 at_68 (pc' := 69) rfl 1 rfl ?_
      refine f_icY A806 at_69 (feq (by decide : ¬ (3 : Int32) = (1 : Int32))).2 (pc' := 153) (by decide) (by decide) ?_
      refine f_iload A806 at_153 (pc' := 155) rfl rfl ?_
      refine f_iconst A806 at_155 (pc' := 156) rfl 2 rfl ?_
      refine f_icY A806 at_156 (feq (by decide : ¬ (3 : Int32) = (2 : Int32))).2 (pc' := 195) (by decide) (by decide) ?_
      refine f_iloadN A806 at_195 (pc' := 196) rfl rfl ?_
      refine f_iconst A806 at_196 (pc' := 197) rfl 1 rfl ?_
      refine f_iand A806 at_197 (pc' := 198) rfl (ch &&& (1 : Int32)) rfl ?_
      by_cases qb : ch &&& 1 = 0
      · refine f_ifN A806 at_198 ((if0 _ _).trans (teq qb).2) (pc' := 201) rfl ?_
        refine f_aconst_null A806 at_201 (pc' := 202) rfl ?_
        refine f_callS A806 at_202 (pc' := 205) rfl (wd hw 81 rfl) (wd hw 82 rfl) (wd hw 16 rfl) (wd hw 83 rfl) (by decide) pd18 [.null] [] rfl rfl rfl 0 (Nat.le_of_eq rfl) (CN.pay (W := 0) A806 (m_fkN l Z a0 hw aA aD aM aL vv h803 n0 A806.old hV) (wd hw 83 rfl) (wd hw 16 rfl) (by decide) (by decide)) (kc := 1) (ks := 4) (by decide) (by decide) all0 (fun _ => sf0) fun v972 T972 h972 L972 A972 K972 q972 => ?_
        have Q973 : Keep h0 h972 [] := Q804.trans K972 all0
        obtain rfl := q972
        show Wp pG e below _ T972 (mkF m 205 _ [.null])
        refine f_nonN A972 at_205 (pc' := 208) rfl ?_
        refine f_iconst A972 at_208 (pc' := 209) rfl 1 rfl ?_
        refine f_goto A972 at_209 (pc' := 213) (by decide) (by decide) ?_
        exact f_retBW A972 hEL hlk hret at_213 (by decide) (1 : Int32) (by decide) (by decide) (by decide) Q973 rfl
      · refine f_ifY A806 at_198 ((if0 _ _).trans (feq qb).2) (pc' := 214) (by decide) (by decide) ?_
        refine f_aload A806 at_214 (pc' := 216) rfl rfl rfl ?_
        refine f_iload A806 at_216 (pc' := 218) rfl rfl ?_
        refine f_iconst A806 at_218 (pc' := 219) rfl 1 rfl ?_
        refine f_iadd A806 at_219 (pc' := 220) rfl (5 : Int32) (by decide) ?_
        refine f_callS A806 at_220 (pc' := 223) rfl (wd hw 32 rfl) (wd hw 33 rfl) (wd hw 2 rfl) (wd hw 34 rfl) (by decide) pd16 [(.ref w803), (.int (5 : Int32))] [] rfl rfl rfl 0 (Nat.le_of_eq rfl) (CN.pay (W := 0) A806 (m_ck21 l Z a0 hw w803 u803 zc O2 P5 fm O4 rG3 h803 n0 A806.old G803) (wd hw 34 rfl) (wd hw 2 rfl) (by decide) (by decide)) (kc := 1) (ks := 5) (by decide) (by decide) all0 (fun _ => sf0) fun v974 T974 h974 L974 A974 K974 q974 => ?_
        have Q975 : Keep h0 h974 [] := Q804.trans K974 all0
        obtain ⟨b974, kA974, rfl, bg974, V974⟩ := q974
        show Wp pG e below _ T974 (mkF m 223 _ [(.ref b974)])
        refine f_astore A974 at_223 (pc' := 225) rfl rfl (L' := #[.val (.int sel), .val (.int pos), .val (.int ch), .val (.long bytes), .second, .val (.int (2 : Int32)), .val (.int (3 : Int32)), .val (.ref w803), .val (.ref aM), .val (.int (4 : Int32)), .val (.ref b974), .unset, .unset, .unset, .unset]) rfl ?_
        refine f_aload A974 at_225 (pc' := 227) rfl rfl rfl ?_
        refine f_iload A974 at_227 (pc' := 229) rfl rfl ?_
        refine f_iloadN A974 at_229 (pc' := 230) rfl rfl ?_
        refine f_iconst A974 at_230 (pc' := 231) rfl 1 rfl ?_
        refine f_iushr A974 at_231 (pc' := 232) rfl ((ch.toUInt32 >>> ((1 : Int32) &&& 31).toUInt32).toInt32) rfl ?_
        refine f_i2c A974 at_232 (pc' := 233) rfl c3 hc3 ?_
        refine f_castore A974 at_233 (pc' := 234) rfl V974 ⟨by decide, by decide⟩ 4 (by decide) (Nat.le_of_ble_eq_true rfl) c3 (nar_id rc3) (vs' := [(.int (109 : Int32)), (.int (111 : Int32)), (.int (99 : Int32)), (.int (107 : Int32)), (.int c3)]) rfl (Nat.le_trans A806.sz bg974) (fun _ => (Safe.arv A974.hZ.alike V974 (by decide))) fun T976 h976 A976 K976 V976 => ?_
        have Q977 : Keep h0 h976 [] := Q975.trans K976 (allS (Or.inr (Nat.le_trans Q804.1 bg974)) all0)
        by_cases q8 : (255 : Int32) < c3
        · refine f_new A976 at_234 (pc' := 237) rfl (wd hw 31 rfl) (wd hw 6 rfl) (wd hw 5 rfl) (by decide) (by decide) fun a978 T978 h978 g978 A978 E978 X978 D978 => ?_
          have z978 : n0 ≤ a978 := Nat.le_trans A976.sz (Nat.le_of_eq g978.symm)
          have y978 : h0.size ≤ a978 := Nat.le_trans Q977.1 (Nat.le_of_eq g978.symm)
          have Q979 : Keep h0 h978 [] := Q977.ext E978
          have s978 := Safe.ext E978 (A976.ch rfl).1 (Safe.new (Nat.le_of_eq g978.symm))
          refine f_dup A978 at_237 (pc' := 238) rfl rfl ?_
          refine f_aload A978 at_238 (pc' := 240) rfl rfl rfl ?_
          have c980 := (V976.ext E978)
          refine f_callI A978 (a := a978) at_240 (pc' := 243) rfl rfl (wd hw 61 rfl) (wd hw 62 rfl) (wd hw 63 rfl) (by decide) pd17 [(.ref b974)] [(.ref a978)] rfl rfl rfl 1 (Nat.le_of_eq rfl) (CN.pay (W := 1) A978 (m_new1W l Z a0 hw a978 b974 kA974 5 [(109 : Int32), (111 : Int32), (99 : Int32), (107 : Int32), c3] (.int 0) 4 Oa Oh Ol zc O2 P5 h978 n0 A978.old X978 (show Fld Z h978 a978 "java/lang/String" "value" "[B" .null from D978 (Or.inr (wd hw 8 rfl)) (ty := (.array .byte)) (by decide)) (show Fld Z h978 a978 "java/lang/String" "coder" "B" (.int (0 : Int32)) from D978 (Or.inr (wd hw 9 rfl)) (ty := .byte) (by decide)) z978 c980 rfl (by decide) (by decide) (hpreK (L := [(109 : Int32), (111 : Int32), (99 : Int32), (107 : Int32)]) (by decide)) q8 (lc (by decide) (lc (by decide) (lc (by decide) (lc (by decide) (lc (c16 rc3) ln)))))) (wd hw 63 rfl) (wd hw 5 rfl) (by decide) (by decide)) (kc := 2) (ks := 108) (by decide) (by decide) (allS z978 all0) (fun _ => (sfS s978 sf0)) fun v981 T981 h981 L981 A981 K981 q981 => ?_
          have Q982 : Keep h0 h981 [] := Q979.trans K981 (allS (Or.inr y978) all0)
          obtain ⟨rfl, t981, tz981, tg981, tn981, G981⟩ := q981
          show Wp pG e below _ T981 (mkF m 243 _ [(.ref a978)])
          refine f_callS A981 at_243 (pc' := 246) rfl (wd hw 81 rfl) (wd hw 82 rfl) (wd hw 16 rfl) (wd hw 83 rfl) (by decide) pd18 [(.ref a978)] [] rfl rfl rfl 0 (Nat.le_of_eq rfl) (CN.pay (W := 0) A981 (m_fk l Z a0 hw aA aD aM aL vv a978 t981 [(109 : Int32), (111 : Int32), (99 : Int32), (107 : Int32), c3] .null zc O2 P5 h981 n0 A981.old hV G981 app_no2) (wd hw 83 rfl) (wd hw 16 rfl) (by decide) (by decide)) (kc := 1) (ks := 4) (by decide) (by decide) all0 (fun _ => sf0) fun v983 T983 h983 L983 A983 K983 q983 => ?_
          have Q984 : Keep h0 h983 [] := Q982.trans K983 all0
          obtain rfl := q983
          show Wp pG e below _ T983 (mkF m 246 _ [.null])
          refine f_nonN A983 at_246 (pc' := 249) rfl ?_
          refine f_iconst A983 at_249 (pc' := 250) rfl 1 rfl ?_
          refine f_goto A983 at_250 (pc' := 254) (by decide) (by decide) ?_
          exact f_retBW A983 hEL hlk hret at_254 (by decide) (1 : Int32) (by decide) (by decide) (by decide) Q984 rfl
        · refine f_new A976 at_234 (pc' := 237) rfl (wd hw 31 rfl) (wd hw 6 rfl) (wd hw 5 rfl) (by decide) (by decide) fun a985 T985 h985 g985 A985 E985 X985 D985 => ?_
          have z985 : n0 ≤ a985 := Nat.le_trans A976.sz (Nat.le_of_eq g985.symm)
          have y985 : h0.size ≤ a985 := Nat.le_trans Q977.1 (Nat.le_of_eq g985.symm)
          have Q986 : Keep h0 h985 [] := Q977.ext E985
          have s985 := Safe.ext E985 (A976.ch rfl).1 (Safe.new (Nat.le_of_eq g985.symm))
          refine f_dup A985 at_237 (pc' := 238) rfl rfl ?_
          refine f_aload A985 at_238 (pc' := 240) rfl rfl rfl ?_
          have c987 := (V976.ext E985)
          refine f_callI A985 (a := a985) at_240 (pc' := 243) rfl rfl (wd hw 61 rfl) (wd hw 62 rfl) (wd hw 63 rfl) (by decide) pd17 [(.ref b974)] [(.ref a985)] rfl rfl rfl 1 (Nat.le_of_eq rfl) (payNew (W := 1) A985 hw (wd hw 6 rfl) (cs := [(109 : Int32), (111 : Int32), (99 : Int32), (107 : Int32), c3]) 5 z985 X985 (show Fld Z h985 a985 "java/lang/String" "value" "[B" .null from D985 (Or.inr (wd hw 8 rfl)) (ty := (.array .byte)) (by decide)) (show Fld Z h985 a985 "java/lang/String" "coder" "B" (.int (0 : Int32)) from D985 (Or.inr (wd hw 9 rfl)) (ty := .byte) (by decide)) c987 O2 P5 rfl rfl (by decide) (by decide) (lc (by decide) (lc (by decide) (lc (by decide) (lc (by decide) (lc (c8 rc3 q8) ln))))) (by decide) (by decide)) (kc := 1) (ks := 5) (by decide) (by decide) (allS z985 all0) (fun _ => (sfS s985 sf0)) fun v988 T988 h988 L988 A988 K988 q988 => ?_
          have Q989 : Keep h0 h988 [] := Q986.trans K988 (allS (Or.inr y985) all0)
          obtain ⟨rfl, t988, tz988, tg988, tn988, G988⟩ := q988
          show Wp pG e below _ T988 (mkF m 243 _ [(.ref a985)])
          refine f_callS A988 at_243 (pc' := 246) rfl (wd hw 81 rfl) (wd hw 82 rfl) (wd hw 16 rfl) (wd hw 83 rfl) (by decide) pd18 [(.ref a985)] [] rfl rfl rfl 0 (Nat.le_of_eq rfl) (CN.pay (W := 0) A988 (m_fk l Z a0 hw aA aD aM aL vv a985 t988 [(109 : Int32), (111 : Int32), (99 : Int32), (107 : Int32), c3] .null zc O2 P5 h988 n0 A988.old hV G988 app_no2) (wd hw 83 rfl) (wd hw 16 rfl) (by decide) (by decide)) (kc := 1) (ks := 4) (by decide) (by decide) all0 (fun _ => sf0) fun v990 T990 h990 L990 A990 K990 q990 => ?_
          have Q991 : Keep h0 h990 [] := Q989.trans K990 all0
          obtain rfl := q990
          show Wp pG e below _ T990 (mkF m 246 _ [.null])
          refine f_nonN A990 at_246 (pc' := 249) rfl ?_
          refine f_iconst A990 at_249 (pc' := 250) rfl 1 rfl ?_
          refine f_goto A990 at_250 (pc' := 254) (by decide) (by decide) ?_
          exact f_retBW A990 hEL hlk hret at_254 (by decide) (1 : Int32) (by decide) (by decide) (by decide) Q991 rfl
  · refine f_iloadN A0 at_0 (pc' := 1) rfl rfl ?_
    refine f_iconst A0 at_1 (pc' := 2) rfl 3 rfl ?_
    refine f_iand A0 at_2 (pc' := 3) rfl (3 : Int32) hk ?_
    refine f_istore A0 at_3 (pc' := 5) rfl (L' := #[.val (.int sel), .val (.int pos), .val (.int ch), .val (.long bytes), .second, .val (.int (3 : Int32)), .unset, .unset, .unset, .unset, .unset, .unset, .unset, .unset, .unset]) rfl ?_
    refine f_iloadN A0 at_5 (pc' := 6) rfl rfl ?_
    refine f_iconst A0 at_6 (pc' := 7) rfl 2 rfl ?_
    refine f_iushr A0 at_7 (pc' := 8) rfl ((sel.toUInt32 >>> ((2 : Int32) &&& 31).toUInt32).toInt32) rfl ?_
    refine f_iconst A0 at_8 (pc' := 9) rfl 3 rfl ?_
    refine f_iand A0 at_9 (pc' := 10) rfl mo hmo ?_
    refine f_istore A0 at_10 (pc' := 12) rfl (L' := #[.val (.int sel), .val (.int pos), .val (.int ch), .val (.long bytes), .second, .val (.int (3 : Int32)), .val (.int mo), .unset, .unset, .unset, .unset, .unset, .unset, .unset, .unset]) rfl ?_
    refine f_iload A0 at_12 (pc' := 14) rfl rfl ?_
    refine f_callSW A0 at_14 (pc' := 17) rfl (wd hw 0 rfl) (wd hw 1 rfl) (wd hw 2 rfl) (wd hw 3 rfl) (by decide) pd14 [(.int (3 : Int32))] [] rfl rfl rfl 0 (Nat.le_of_eq rfl) (CW.pay (W := 0) A0 hEL (m_kw3 l Z a0 hw h0 n0 A0.old hEL) (wd hw 3 rfl) (wd hw 2 rfl) (by decide) (by decide) (fun _ q => nomatch q)) (kc := 2) (ks := 24) (by decide) (by decide) all0 fun v992 vm992 T992 h992 L992 A992 K992 C992 q992 => ?_
    have Q993 : Keep h0 h992 [] := K0.trans K992 all0
    obtain ⟨w992, u992, rfl, G992⟩ := q992
    show Wp pG e below _ T992 (mkF m 17 _ [(.ref w992)])
    refine f_astore A992 at_17 (pc' := 19) rfl rfl (L' := #[.val (.int sel), .val (.int pos), .val (.int ch), .val (.long bytes), .second, .val (.int (3 : Int32)), .val (.int mo), .val (.ref w992), .unset, .unset, .unset, .unset, .unset, .unset, .unset]) rfl ?_
    refine f_iload A992 at_19 (pc' := 21) rfl rfl ?_
    refine f_callS A992 at_21 (pc' := 24) rfl (wd hw 12 rfl) (wd hw 13 rfl) (wd hw 2 rfl) (wd hw 14 rfl) (by decide) pd15 [(.int (3 : Int32))] [] rfl rfl rfl 0 (Nat.le_of_eq rfl) (CN.pay (W := 0) A992 (m_ek3 l Z a0 hw aA aD aM aL vv h992 n0 A992.old hV) (wd hw 14 rfl) (wd hw 2 rfl) (by decide) (by decide)) (kc := 0) (ks := 0) (by decide) (by decide) all0 (fun _ => sf0) fun v994 T994 h994 L994 A994 K994 q994 => ?_
    obtain ⟨rfl, hh994⟩ := q994
    obtain rfl := hh994.symm
    show Wp pG e below _ T994 (mkF m 24 _ [(.ref aL)])
    refine f_astore A994 at_24 (pc' := 26) rfl rfl (L' := #[.val (.int sel), .val (.int pos), .val (.int ch), .val (.long bytes), .second, .val (.int (3 : Int32)), .val (.int mo), .val (.ref w992), .val (.ref aL), .unset, .unset, .unset, .unset, .unset, .unset]) rfl ?_
    refine f_aload A994 at_26 (pc' := 28) rfl rfl rfl ?_
    refine f_callV A994 (a := w992) at_28 (pc' := 31) rfl (wd hw 18 rfl) (wd hw 19 rfl) (nfS A994 (wd hw 21 rfl)) (wd hw 21 rfl) (wd hw 20 rfl) (by decide) G992.exa pd11 [] [] rfl rfl rfl 0 (Nat.le_of_eq rfl) (payLen (W := 0) A994 hw (wd hw 6 rfl) G992 O2 P5 (by decide) (by decide)) (kc := 0) (ks := 0) (by decide) (by decide) all0 (fun _ => sf0) fun v995 T995 h995 L995 A995 K995 q995 => ?_
    obtain ⟨rfl, hh995⟩ := q995
    obtain rfl := hh995.symm
    show Wp pG e below _ T995 (mkF m 31 _ [(.int (3 : Int32))])
    refine f_istore A995 at_31 (pc' := 33) rfl (L' := #[.val (.int sel), .val (.int pos), .val (.int ch), .val (.long bytes), .second, .val (.int (3 : Int32)), .val (.int mo), .val (.ref w992), .val (.ref aL), .val (.int (3 : Int32)), .unset, .unset, .unset, .unset, .unset]) rfl ?_
    rcases hm4 with rfl | rfl | rfl | rfl
    · refine f_iload A995 at_33 (pc' := 35) rfl rfl ?_
      refine f_ifN A995 at_35 ((if0 _ _).trans (teq (by decide : (0 : Int32) = (0 : Int32))).2) (pc' := 38) rfl ?_
      refine f_new A995 at_38 (pc' := 41) rfl (wd hw 31 rfl) (wd hw 6 rfl) (wd hw 5 rfl) (by decide) (by decide) fun a996 T996 h996 g996 A996 E996 X996 D996 => ?_
      have z996 : n0 ≤ a996 := Nat.le_trans A995.sz (Nat.le_of_eq g996.symm)
      have y996 : h0.size ≤ a996 := Nat.le_trans Q993.1 (Nat.le_of_eq g996.symm)
      have Q997 : Keep h0 h996 [] := Q993.ext E996
      have s996 := Safe.ext E996 (A995.ch rfl).1 (Safe.new (Nat.le_of_eq g996.symm))
      refine f_dup A996 at_41 (pc' := 42) rfl rfl ?_
      refine f_aload A996 at_42 (pc' := 44) rfl rfl rfl ?_
      refine f_iload A996 at_44 (pc' := 46) rfl rfl ?_
      have c998 := (G992.ext E996)
      refine f_callS A996 at_46 (pc' := 49) rfl (wd hw 32 rfl) (wd hw 33 rfl) (wd hw 2 rfl) (wd hw 34 rfl) (by decide) pd16 [(.ref w992), (.int (3 : Int32))] [(.ref a996), (.ref a996)] rfl rfl rfl 2 (Nat.le_of_eq rfl) (CN.pay (W := 2) A996 (m_ck30 l Z a0 hw w992 u992 zc O2 P5 fm O4 rG3 h996 n0 A996.old c998) (wd hw 34 rfl) (wd hw 2 rfl) (by decide) (by decide)) (kc := 1) (ks := 3) (by decide) (by decide) all0 (fun _ => sf0) fun v999 T999 h999 L999 A999 K999 q999 => ?_
      have Q1000 : Keep h0 h999 [] := Q997.trans K999 all0
      obtain ⟨b999, kA999, rfl, bg999, V999⟩ := q999
      show Wp pG e below _ T999 (mkF m 49 _ [(.ref b999), (.ref a996), (.ref a996)])
      have c1001 := (X996.keep K999)
      have c1002 := ((show Fld Z h996 a996 "java/lang/String" "value" "[B" .null from D996 (Or.inr (wd hw 8 rfl)) (ty := (.array .byte)) (by decide)).keep K999 nin0)
      have c1003 := ((show Fld Z h996 a996 "java/lang/String" "coder" "B" (.int (0 : Int32)) from D996 (Or.inr (wd hw 9 rfl)) (ty := .byte) (by decide)).keep K999 nin0)
      have c1005 := (Safe.keep K999 sf0 (A996.ch rfl).1 s996)
      refine f_callI A999 (a := a996) at_49 (pc' := 52) rfl rfl (wd hw 61 rfl) (wd hw 62 rfl) (wd hw 63 rfl) (by decide) pd17 [(.ref b999)] [(.ref a996)] rfl rfl rfl 1 (Nat.le_of_eq rfl) (payNew (W := 1) A999 hw (wd hw 6 rfl) (cs := [(108 : Int32), (111 : Int32), (103 : Int32)]) 3 z996 c1001 c1002 c1003 V999 O2 P5 rfl rfl (by decide) (by decide) (by decide) (by decide) (by decide)) (kc := 1) (ks := 3) (by decide) (by decide) (allS z996 all0) (fun _ => (sfS c1005 sf0)) fun v1004 T1004 h1004 L1004 A1004 K1004 q1004 => ?_
      have Q1006 : Keep h0 h1004 [] := Q1000.trans K1004 (allS (Or.inr y996) all0)
      obtain ⟨rfl, t1004, tz1004, tg1004, tn1004, G1004⟩ := q1004
      show Wp pG e below _ T1004 (mkF m 52 _ [(.ref a996)])
      refine f_callS A1004 at_52 (pc' := 55) rfl (wd hw 81 rfl) (wd hw 82 rfl) (wd hw 16 rfl) (wd hw 83 rfl) (by decide) pd18 [(.ref a996)] [] rfl rfl rfl 0 (Nat.le_of_eq rfl) (CN.pay (W := 0) A1004 (m_fk l Z a0 hw aA aD aM aL vv a996 t1004 [(108 : Int32), (111 : Int32), (103 : Int32)] (.ref aL) zc O2 P5 h1004 n0 A1004.old hV G1004 rfl) (wd hw 83 rfl) (wd hw 16 rfl) (by decide) (by decide)) (kc := 1) (ks := 4) (by decide) (by decide) all0 (fun _ => sf0) fun v1007 T1007 h1007 L1007 A1007 K1007 q1007 => ?_
      have Q1008 : Keep h0 h1007 [] := Q1006.trans K1007 all0
      obtain rfl := q1007
      show Wp pG e below _ T1007 (mkF m 55 _ [(.ref aL)])
      refine f_aload A1007 at_55 (pc' := 57) rfl rfl rfl ?_
      refine f_acmp A1007 rfl rfl at_57 true (decide_eq_true rfl) (by decide) (pc' := 60) (by decide) ?_
      refine f_iconst A1007 at_60 (pc' := 61) rfl 1 rfl ?_
      refine f_goto A1007 at_61 (pc' := 65) (by decide) (by decide) ?_
      exact f_retBW A1007 hEL hlk hret at_65 (by decide) (1 : Int32) (by decide) (by decide) (by decide) Q1008 rfl
    · obtain ⟨P, hP, hPn⟩ := rem_pos pos 3 3 rfl (by decide)
      refine f_iload A995 at_33 (pc' := 35) rfl rfl ?_
      refine f_ifY A995 at_35 ((if0 _ _).trans (feq (by decide : ¬ (1 : Int32) = (0 : Int32))).2) (pc' := 66) (by decide) (by decide) ?_
      refine f_iload A995 at_66 (pc' := 68) rfl rfl ?_
      refine f_iconst A995 at_68 (pc' := 69) rfl 1 rfl ?_
      refine f_icN A995 at_69 (teq (by decide : (1 : Int32) = (1 : Int32))).2 (pc' := 72) rfl ?_
      refine f_aload A995 at_72 (pc' := 74) rfl rfl rfl ?_
      refine f_iload A995 at_74 (pc' := 76) rfl rfl ?_
      refine f_callS A995 at_76 (pc' := 79) rfl (wd hw 32 rfl) (wd hw 33 rfl) (wd hw 2 rfl) (wd hw 34 rfl) (by decide) pd16 [(.ref w992), (.int (3 : Int32))] [] rfl rfl rfl 0 (Nat.le_of_eq rfl) (CN.pay (W := 0) A995 (m_ck30 l Z a0 hw w992 u992 zc O2 P5 fm O4 rG3 h992 n0 A995.old G992) (wd hw 34 rfl) (wd hw 2 rfl) (by decide) (by decide)) (kc := 1) (ks := 3) (by decide) (by decide) all0 (fun _ => sf0) fun v1009 T1009 h1009 L1009 A1009 K1009 q1009 => ?_
      have Q1010 : Keep h0 h1009 [] := Q993.trans K1009 all0
      obtain ⟨b1009, kA1009, rfl, bg1009, V1009⟩ := q1009
      show Wp pG e below _ T1009 (mkF m 79 _ [(.ref b1009)])
      refine f_astore A1009 at_79 (pc' := 81) rfl rfl (L' := #[.val (.int sel), .val (.int pos), .val (.int ch), .val (.long bytes), .second, .val (.int (3 : Int32)), .val (.int (1 : Int32)), .val (.ref w992), .val (.ref aL), .val (.int (3 : Int32)), .val (.ref b1009), .unset, .unset, .unset, .unset]) rfl ?_
      refine f_iloadN A1009 at_81 (pc' := 82) rfl rfl ?_
      refine f_ldcI A1009 at_82 (pc' := 84) rfl (wd hw 113 rfl) ?_
      refine f_iand A1009 at_84 (pc' := 85) rfl (pos &&& (2147483647 : Int32)) rfl ?_
      refine f_iload A1009 at_85 (pc' := 87) rfl rfl ?_
      refine f_irem A1009 at_87 (pc' := 88) rfl (by decide) (Int32.ofNat P) hP ?_
      refine f_istore A1009 at_88 (pc' := 90) rfl (L' := #[.val (.int sel), .val (.int pos), .val (.int ch), .val (.long bytes), .second, .val (.int (3 : Int32)), .val (.int (1 : Int32)), .val (.ref w992), .val (.ref aL), .val (.int (3 : Int32)), .val (.ref b1009), .val (.int (Int32.ofNat P)), .unset, .unset, .unset]) rfl ?_
      refine f_iloadN A1009 at_90 (pc' := 91) rfl rfl ?_
      refine f_i2c A1009 at_91 (pc' := 92) rfl c1 hc1 ?_
      refine f_istore A1009 at_92 (pc' := 94) rfl (L' := #[.val (.int sel), .val (.int pos), .val (.int ch), .val (.long bytes), .second, .val (.int (3 : Int32)), .val (.int (1 : Int32)), .val (.ref w992), .val (.ref aL), .val (.int (3 : Int32)), .val (.ref b1009), .val (.int (Int32.ofNat P)), .val (.int c1), .unset, .unset]) rfl ?_
      refine f_aload A1009 at_94 (pc' := 96) rfl rfl rfl ?_
      refine f_iload A1009 at_96 (pc' := 98) rfl rfl ?_
      refine f_caload A1009 at_98 (pc' := 99) rfl V1009 (ofn_in hPn (by decide)) (v := (.int (([(108 : Int32), (111 : Int32), (103 : Int32)] : List Int32).getD P 0))) (by rw [ofn_clamp (by omega)]; exact getDm (cs := [(108 : Int32), (111 : Int32), (103 : Int32)]) _ hPn) ?_
      refine f_istore A1009 at_99 (pc' := 101) rfl (L' := #[.val (.int sel), .val (.int pos), .val (.int ch), .val (.long bytes), .second, .val (.int (3 : Int32)), .val (.int (1 : Int32)), .val (.ref w992), .val (.ref aL), .val (.int (3 : Int32)), .val (.ref b1009), .val (.int (Int32.ofNat P)), .val (.int c1), .val (.int (([(108 : Int32), (111 : Int32), (103 : Int32)] : List Int32).getD P 0)), .unset]) rfl ?_
      refine f_aload A1009 at_101 (pc' := 103) rfl rfl rfl ?_
      refine f_iload A1009 at_103 (pc' := 105) rfl rfl ?_
      refine f_iload A1009 at_105 (pc' := 107) rfl rfl ?_
      refine f_castore A1009 at_107 (pc' := 108) rfl V1009 (ofn_in hPn (by decide)) P (ofn_clamp (by omega)) hPn c1 (nar_id rc1) (vs' := ((([(108 : Int32), (111 : Int32), (103 : Int32)] : List Int32).set P c1).map Value.int)) (by rw [List.map_set]; rfl) (Nat.le_trans A995.sz bg1009) (fun _ => (Safe.arv A1009.hZ.alike V1009 (by decide))) fun T1011 h1011 A1011 K1011 V1011 => ?_
      have Q1012 : Keep h0 h1011 [] := Q1010.trans K1011 (allS (Or.inr (Nat.le_trans Q993.1 bg1009)) all0)
      by_cases q8 : (255 : Int32) < c1
      · by_cases qe : c1 = ([(108 : Int32), (111 : Int32), (103 : Int32)] : List Int32).getD P 0
        · refine f_new A1011 at_108 (pc' := 111) rfl (wd hw 31 rfl) (wd hw 6 rfl) (wd hw 5 rfl) (by decide) (by decide) fun a1013 T1013 h1013 g1013 A1013 E1013 X1013 D1013 => ?_
          have z1013 : n0 ≤ a1013 := Nat.le_trans A1011.sz (Nat.le_of_eq g1013.symm)
          have y1013 : h0.size ≤ a1013 := Nat.le_trans Q1012.1 (Nat.le_of_eq g1013.symm)
          have Q1014 : Keep h0 h1013 [] := Q1012.ext E1013
          have s1013 := Safe.ext E1013 (A1011.ch rfl).1 (Safe.new (Nat.le_of_eq g1013.symm))
          refine f_dup A1013 at_111 (pc' := 112) rfl rfl ?_
          refine f_aload A1013 at_112 (pc' := 114) rfl rfl rfl ?_
          have c1015 := (V1011.ext E1013)
          refine f_callI A1013 (a := a1013) at_114 (pc' := 117) rfl rfl (wd hw 61 rfl) (wd hw 62 rfl) (wd hw 63 rfl) (by decide) pd17 [(.ref b1009)] [(.ref a1013)] rfl rfl rfl 1 (Nat.le_of_eq rfl) (CN.pay (W := 1) A1013 (m_new1W l Z a0 hw a1013 b1009 kA1009 3 (([(108 : Int32), (111 : Int32), (103 : Int32)] : List Int32).set P c1) (.int 0) P Oa Oh Ol zc O2 P5 h1013 n0 A1013.old X1013 (show Fld Z h1013 a1013 "java/lang/String" "value" "[B" .null from D1013 (Or.inr (wd hw 8 rfl)) (ty := (.array .byte)) (by decide)) (show Fld Z h1013 a1013 "java/lang/String" "coder" "B" (.int (0 : Int32)) from D1013 (Or.inr (wd hw 9 rfl)) (ty := .byte) (by decide)) z1013 c1015 (by rw [List.length_set]; rfl) (by decide) hPn (fun i hi => by rw [getD_set_ne hi]; have hq : ∀ i : Fin 3, ¬ (255 : Int32) < ([(108 : Int32), (111 : Int32), (103 : Int32)] : List Int32).getD i.val 0 := (by decide); exact hq ⟨i, Nat.lt_trans hi hPn⟩) (by rw [getD_set_eq hPn]; exact q8) (lat_set (by decide) (c16 rc1))) (wd hw 63 rfl) (wd hw 5 rfl) (by decide) (by decide)) (kc := 2) (ks := 108) (by decide) (by decide) (allS z1013 all0) (fun _ => (sfS s1013 sf0)) fun v1016 T1016 h1016 L1016 A1016 K1016 q1016 => ?_
          have Q1017 : Keep h0 h1016 [] := Q1014.trans K1016 (allS (Or.inr y1013) all0)
          obtain ⟨rfl, t1016, tz1016, tg1016, tn1016, G1016⟩ := q1016
          show Wp pG e below _ T1016 (mkF m 117 _ [(.ref a1013)])
          refine f_callS A1016 at_117 (pc' := 120) rfl (wd hw 81 rfl) (wd hw 82 rfl) (wd hw 16 rfl) (wd hw 83 rfl) (by decide) pd18 [(.ref a1013)] [] rfl rfl rfl 0 (Nat.le_of_eq rfl) (CN.pay (W := 0) A1016 (m_fk l Z a0 hw aA aD aM aL vv a1013 t1016 (([(108 : Int32), (111 : Int32), (103 : Int32)] : List Int32).set P c1) (.ref aL) zc O2 P5 h1016 n0 A1016.old hV G1016 (by rw [qe, set_self hPn]; rfl)) (wd hw 83 rfl) (wd hw 16 rfl) (by decide) (by decide)) (kc := 1) (ks := 4) (by decide) (by decide) all0 (fun _ => sf0) fun v1018 T1018 h1018 L1018 A1018 K1018 q1018 => ?_
          have Q1019 : Keep h0 h1018 [] := Q1017.trans K1018 all0
          obtain rfl := q1018
          show Wp pG e below _ T1018 (mkF m 120 _ [(.ref aL)])
          refine f_astore A1018 at_120 (pc' := 122) rfl rfl (L' := #[.val (.int sel), .val (.int pos), .val (.int ch), .val (.long bytes), .second, .val (.int (3 : Int32)), .val (.int (1 : Int32)), .val (.ref w992), .val (.ref aL), .val (.int (3 : Int32)), .val (.ref b1009), .val (.int (Int32.ofNat P)), .val (.int c1), .val (.int (([(108 : Int32), (111 : Int32), (103 : Int32)] : List Int32).getD P 0)), .val (.ref aL)]) rfl ?_
          refine f_iload A1018 at_122 (pc' := 124) rfl rfl ?_
          refine f_iload A1018 at_124 (pc' := 126) rfl rfl ?_
          refine f_icN A1018 at_126 (teq qe).2 (pc' := 129) rfl ?_
          refine f_aload A1018 at_129 (pc' := 131) rfl rfl rfl ?_
          refine f_aload A1018 at_131 (pc' := 133) rfl rfl rfl ?_
          refine f_acmp A1018 rfl rfl at_133 true (decide_eq_true rfl) (by decide) (pc' := 136) (by decide) ?_
          refine f_iconst A1018 at_136 (pc' := 137) rfl 1 rfl ?_
          refine f_goto A1018 at_137 (pc' := 141) (by decide) (by decide) ?_
          exact f_retBW A1018 hEL hlk hret at_141 (by decide) (1 : Int32) (by decide) (by decide) (by decide) Q1019 rfl
        · refine f_new A1011 at_108 (pc' := 111) rfl (wd hw 31 rfl) (wd hw 6 rfl) (wd hw 5 rfl) (by decide) (by decide) fun a1020 T1020 h1020 g1020 A1020 E1020 X1020 D1020 => ?_
          have z1020 : n0 ≤ a1020 := Nat.le_trans A1011.sz (Nat.le_of_eq g1020.symm)
          have y1020 : h0.size ≤ a1020 := Nat.le_trans Q1012.1 (Nat.le_of_eq g1020.symm)
          have Q1021 : Keep h0 h1020 [] := Q1012.ext E1020
          have s1020 := Safe.ext E1020 (A1011.ch rfl).1 (Safe.new (Nat.le_of_eq g1020.symm))
          refine f_dup A1020 at_111 (pc' := 112) rfl rfl ?_
          refine f_aload A1020 at_112 (pc' := 114) rfl rfl rfl ?_
          have c1022 := (V1011.ext E1020)
          refine f_callI A1020 (a := a1020) at_114 (pc' := 117) rfl rfl (wd hw 61 rfl) (wd hw 62 rfl) (wd hw 63 rfl) (by decide) pd17 [(.ref b1009)] [(.ref a1020)] rfl rfl rfl 1 (Nat.le_of_eq rfl) (CN.pay (W := 1) A1020 (m_new1W l Z a0 hw a1020 b1009 kA1009 3 (([(108 : Int32), (111 : Int32), (103 : Int32)] : List Int32).set P c1) (.int 0) P Oa Oh Ol zc O2 P5 h1020 n0 A1020.old X1020 (show Fld Z h1020 a1020 "java/lang/String" "value" "[B" .null from D1020 (Or.inr (wd hw 8 rfl)) (ty := (.array .byte)) (by decide)) (show Fld Z h1020 a1020 "java/lang/String" "coder" "B" (.int (0 : Int32)) from D1020 (Or.inr (wd hw 9 rfl)) (ty := .byte) (by decide)) z1020 c1022 (by rw [List.length_set]; rfl) (by decide) hPn (fun i hi => by rw [getD_set_ne hi]; have hq : ∀ i : Fin 3, ¬ (255 : Int32) < ([(108 : Int32), (111 : Int32), (103 : Int32)] : List Int32).getD i.val 0 := (by decide); exact hq ⟨i, Nat.lt_trans hi hPn⟩) (by rw [getD_set_eq hPn]; exact q8) (lat_set (by decide) (c16 rc1))) (wd hw 63 rfl) (wd hw 5 rfl) (by decide) (by decide)) (kc := 2) (ks := 108) (by decide) (by decide) (allS z1020 all0) (fun _ => (sfS s1020 sf0)) fun v1023 T1023 h1023 L1023 A1023 K1023 q1023 => ?_
          have Q1024 : Keep h0 h1023 [] := Q1021.trans K1023 (allS (Or.inr y1020) all0)
          obtain ⟨rfl, t1023, tz1023, tg1023, tn1023, G1023⟩ := q1023
          show Wp pG e below _ T1023 (mkF m 117 _ [(.ref a1020)])
          refine f_callS A1023 at_117 (pc' := 120) rfl (wd hw 81 rfl) (wd hw 82 rfl) (wd hw 16 rfl) (wd hw 83 rfl) (by decide) pd18 [(.ref a1020)] [] rfl rfl rfl 0 (Nat.le_of_eq rfl) (CN.pay (W := 0) A1023 (m_fk l Z a0 hw aA aD aM aL vv a1020 t1023 (([(108 : Int32), (111 : Int32), (103 : Int32)] : List Int32).set P c1) .null zc O2 P5 h1023 n0 A1023.old hV G1023 (set_no3 hPn qe)) (wd hw 83 rfl) (wd hw 16 rfl) (by decide) (by decide)) (kc := 1) (ks := 4) (by decide) (by decide) all0 (fun _ => sf0) fun v1025 T1025 h1025 L1025 A1025 K1025 q1025 => ?_
          have Q1026 : Keep h0 h1025 [] := Q1024.trans K1025 all0
          obtain rfl := q1025
          show Wp pG e below _ T1025 (mkF m 120 _ [.null])
          refine f_astore A1025 at_120 (pc' := 122) rfl rfl (L' := #[.val (.int sel), .val (.int pos), .val (.int ch), .val (.long bytes), .second, .val (.int (3 : Int32)), .val (.int (1 : Int32)), .val (.ref w992), .val (.ref aL), .val (.int (3 : Int32)), .val (.ref b1009), .val (.int (Int32.ofNat P)), .val (.int c1), .val (.int (([(108 : Int32), (111 : Int32), (103 : Int32)] : List Int32).getD P 0)), .val .null]) rfl ?_
          refine f_iload A1025 at_122 (pc' := 124) rfl rfl ?_
          refine f_iload A1025 at_124 (pc' := 126) rfl rfl ?_
          refine f_icY A1025 at_126 (feq qe).2 (pc' := 142) (by decide) (by decide) ?_
          refine f_aload A1025 at_142 (pc' := 144) rfl rfl rfl ?_
          refine f_nonN A1025 at_144 (pc' := 147) rfl ?_
          refine f_iconst A1025 at_147 (pc' := 148) rfl 1 rfl ?_
          refine f_goto A1025 at_148 (pc' := 152) (by decide) (by decide) ?_
          exact f_retBW A1025 hEL hlk hret at_152 (by decide) (1 : Int32) (by decide) (by decide) (by decide) Q1026 rfl
      · by_cases qe : c1 = ([(108 : Int32), (111 : Int32), (103 : Int32)] : List Int32).getD P 0
        · refine f_new A1011 at_108 (pc' := 111) rfl (wd hw 31 rfl) (wd hw 6 rfl) (wd hw 5 rfl) (by decide) (by decide) fun a1027 T1027 h1027 g1027 A1027 E1027 X1027 D1027 => ?_
          have z1027 : n0 ≤ a1027 := Nat.le_trans A1011.sz (Nat.le_of_eq g1027.symm)
          have y1027 : h0.size ≤ a1027 := Nat.le_trans Q1012.1 (Nat.le_of_eq g1027.symm)
          have Q1028 : Keep h0 h1027 [] := Q1012.ext E1027
          have s1027 := Safe.ext E1027 (A1011.ch rfl).1 (Safe.new (Nat.le_of_eq g1027.symm))
          refine f_dup A1027 at_111 (pc' := 112) rfl rfl ?_
          refine f_aload A1027 at_112 (pc' := 114) rfl rfl rfl ?_
          have c1029 := (V1011.ext E1027)
          refine f_callI A1027 (a := a1027) at_114 (pc' := 117) rfl rfl (wd hw 61 rfl) (wd hw 62 rfl) (wd hw 63 rfl) (by decide) pd17 [(.ref b1009)] [(.ref a1027)] rfl rfl rfl 1 (Nat.le_of_eq rfl) (payNew (W := 1) A1027 hw (wd hw 6 rfl) (cs := (([(108 : Int32), (111 : Int32), (103 : Int32)] : List Int32).set P c1)) 3 z1027 X1027 (show Fld Z h1027 a1027 "java/lang/String" "value" "[B" .null from D1027 (Or.inr (wd hw 8 rfl)) (ty := (.array .byte)) (by decide)) (show Fld Z h1027 a1027 "java/lang/String" "coder" "B" (.int (0 : Int32)) from D1027 (Or.inr (wd hw 9 rfl)) (ty := .byte) (by decide)) c1029 O2 P5 (by rw [List.length_set]; rfl) rfl (by decide) (by decide) (lat_set (by decide) (c8 rc1 q8)) (by decide) (by decide)) (kc := 1) (ks := 3) (by decide) (by decide) (allS z1027 all0) (fun _ => (sfS s1027 sf0)) fun v1030 T1030 h1030 L1030 A1030 K1030 q1030 => ?_
          have Q1031 : Keep h0 h1030 [] := Q1028.trans K1030 (allS (Or.inr y1027) all0)
          obtain ⟨rfl, t1030, tz1030, tg1030, tn1030, G1030⟩ := q1030
          show Wp pG e below _ T1030 (mkF m 117 _ [(.ref a1027)])
          refine f_callS A1030 at_117 (pc' := 120) rfl (wd hw 81 rfl) (wd hw 82 rfl) (wd hw 16 rfl) (wd hw 83 rfl) (by decide) pd18 [(.ref a1027)] [] rfl rfl rfl 0 (Nat.le_of_eq rfl) (CN.pay (W := 0) A1030 (m_fk l Z a0 hw aA aD aM aL vv a1027 t1030 (([(108 : Int32), (111 : Int32), (103 : Int32)] : List Int32).set P c1) (.ref aL) zc O2 P5 h1030 n0 A1030.old hV G1030 (by rw [qe, set_self hPn]; rfl)) (wd hw 83 rfl) (wd hw 16 rfl) (by decide) (by decide)) (kc := 1) (ks := 4) (by decide) (by decide) all0 (fun _ => sf0) fun v1032 T1032 h1032 L1032 A1032 K1032 q1032 => ?_
          have Q1033 : Keep h0 h1032 [] := Q1031.trans K1032 all0
          obtain rfl := q1032
          show Wp pG e below _ T1032 (mkF m 120 _ [(.ref aL)])
          refine f_astore A1032 at_120 (pc' := 122) rfl rfl (L' := #[.val (.int sel), .val (.int pos), .val (.int ch), .val (.long bytes), .second, .val (.int (3 : Int32)), .val (.int (1 : Int32)), .val (.ref w992), .val (.ref aL), .val (.int (3 : Int32)), .val (.ref b1009), .val (.int (Int32.ofNat P)), .val (.int c1), .val (.int (([(108 : Int32), (111 : Int32), (103 : Int32)] : List Int32).getD P 0)), .val (.ref aL)]) rfl ?_
          refine f_iload A1032 at_122 (pc' := 124) rfl rfl ?_
          refine f_iload A1032 at_124 (pc' := 126) rfl rfl ?_
          refine f_icN A1032 at_126 (teq qe).2 (pc' := 129) rfl ?_
          refine f_aload A1032 at_129 (pc' := 131) rfl rfl rfl ?_
          refine f_aload A1032 at_131 (pc' := 133) rfl rfl rfl ?_
          refine f_acmp A1032 rfl rfl at_133 true (decide_eq_true rfl) (by decide) (pc' := 136) (by decide) ?_
          refine f_iconst A1032 at_136 (pc' := 137) rfl 1 rfl ?_
          refine f_goto A1032 at_137 (pc' := 141) (by decide) (by decide) ?_
          exact f_retBW A1032 hEL hlk hret at_141 (by decide) (1 : Int32) (by decide) (by decide) (by decide) Q1033 rfl
        · refine f_new A1011 at_108 (pc' := 111) rfl (wd hw 31 rfl) (wd hw 6 rfl) (wd hw 5 rfl) (by decide) (by decide) fun a1034 T1034 h1034 g1034 A1034 E1034 X1034 D1034 => ?_
          have z1034 : n0 ≤ a1034 := Nat.le_trans A1011.sz (Nat.le_of_eq g1034.symm)
          have y1034 : h0.size ≤ a1034 := Nat.le_trans Q1012.1 (Nat.le_of_eq g1034.symm)
          have Q1035 : Keep h0 h1034 [] := Q1012.ext E1034
          have s1034 := Safe.ext E1034 (A1011.ch rfl).1 (Safe.new (Nat.le_of_eq g1034.symm))
          refine f_dup A1034 at_111 (pc' := 112) rfl rfl ?_
          refine f_aload A1034 at_112 (pc' := 114) rfl rfl rfl ?_
          have c1036 := (V1011.ext E1034)
          refine f_callI A1034 (a := a1034) at_114 (pc' := 117) rfl rfl (wd hw 61 rfl) (wd hw 62 rfl) (wd hw 63 rfl) (by decide) pd17 [(.ref b1009)] [(.ref a1034)] rfl rfl rfl 1 (Nat.le_of_eq rfl) (payNew (W := 1) A1034 hw (wd hw 6 rfl) (cs := (([(108 : Int32), (111 : Int32), (103 : Int32)] : List Int32).set P c1)) 3 z1034 X1034 (show Fld Z h1034 a1034 "java/lang/String" "value" "[B" .null from D1034 (Or.inr (wd hw 8 rfl)) (ty := (.array .byte)) (by decide)) (show Fld Z h1034 a1034 "java/lang/String" "coder" "B" (.int (0 : Int32)) from D1034 (Or.inr (wd hw 9 rfl)) (ty := .byte) (by decide)) c1036 O2 P5 (by rw [List.length_set]; rfl) rfl (by decide) (by decide) (lat_set (by decide) (c8 rc1 q8)) (by decide) (by decide)) (kc := 1) (ks := 3) (by decide) (by decide) (allS z1034 all0) (fun _ => (sfS s1034 sf0)) fun v1037 T1037 h1037 L1037 A1037 K1037 q1037 => ?_
          have Q1038 : Keep h0 h1037 [] := Q1035.trans K1037 (allS (Or.inr y1034) all0)
          obtain ⟨rfl, t1037, tz1037, tg1037, tn1037, G1037⟩ := q1037
          show Wp pG e below _ T1037 (mkF m 117 _ [(.ref a1034)])
          refine f_callS A1037 at_117 (pc' := 120) rfl (wd hw 81 rfl) (wd hw 82 rfl) (wd hw 16 rfl) (wd hw 83 rfl) (by decide) pd18 [(.ref a1034)] [] rfl rfl rfl 0 (Nat.le_of_eq rfl) (CN.pay (W := 0) A1037 (m_fk l Z a0 hw aA aD aM aL vv a1034 t1037 (([(108 : Int32), (111 : Int32), (103 : Int32)] : List Int32).set P c1) .null zc O2 P5 h1037 n0 A1037.old hV G1037 (set_no3 hPn qe)) (wd hw 83 rfl) (wd hw 16 rfl) (by decide) (by decide)) (kc := 1) (ks := 4) (by decide) (by decide) all0 (fun _ => sf0) fun v1039 T1039 h1039 L1039 A1039 K1039 q1039 => ?_
          have Q1040 : Keep h0 h1039 [] := Q1038.trans K1039 all0
          obtain rfl := q1039
          show Wp pG e below _ T1039 (mkF m 120 _ [.null])
          refine f_astore A1039 at_120 (pc' := 122) rfl rfl (L' := #[.val (.int sel), .val (.int pos), .val (.int ch), .val (.long bytes), .second, .val (.int (3 : Int32)), .val (.int (1 : Int32)), .val (.ref w992), .val (.ref aL), .val (.int (3 : Int32)), .val (.ref b1009), .val (.int (Int32.ofNat P)), .val (.int c1), .val (.int (([(108 : Int32), (111 : Int32), (103 : Int32)] : List Int32).getD P 0)), .val .null]) rfl ?_
          refine f_iload A1039 at_122 (pc' := 124) rfl rfl ?_
          refine f_iload A1039 at_124 (pc' := 126) rfl rfl ?_
          refine f_icY A1039 at_126 (feq qe).2 (pc' := 142) (by decide) (by decide) ?_
          refine f_aload A1039 at_142 (pc' := 144) rfl rfl rfl ?_
          refine f_nonN A1039 at_144 (pc' := 147) rfl ?_
          refine f_iconst A1039 at_147 (pc' := 148) rfl 1 rfl ?_
          refine f_goto A1039 at_148 (pc' := 152) (by decide) (by decide) ?_
          exact f_retBW A1039 hEL hlk hret at_152 (by decide) (1 : Int32) (by decide) (by decide) (by decide) Q1040 rfl
    · obtain ⟨n8, hn8⟩ : ∃ z, pos &&& 7 = z := ⟨_, rfl⟩
      have hn9 := lt8 (hn8 ▸ c_and pos 7 (by decide))
      rcases hn9 with rfl | rfl | rfl | rfl | rfl | rfl | rfl | rfl
      · refine f_iload A995 at_33 (pc' := 35) rfl rfl ?_
        refine f_ifY A995 at_35 ((if0 _ _).trans (feq (by decide : ¬ (2 : Int32) = (0 : Int32))).2) (pc' := 66) (by decide) (by decide) ?_
        refine f_iload A995 at_66 (pc' := 68) rfl rfl ?_
        refine f_iconst A995 at_68 (pc' := 69) rfl 1 rfl ?_
        refine f_icY A995 at_69 (feq (by decide : ¬ (2 : Int32) = (1 : Int32))).2 (pc' := 153) (by decide) (by decide) ?_
        refine f_iload A995 at_153 (pc' := 155) rfl rfl ?_
        refine f_iconst A995 at_155 (pc' := 156) rfl 2 rfl ?_
        refine f_icN A995 at_156 (teq (by decide : (2 : Int32) = (2 : Int32))).2 (pc' := 159) rfl ?_
        refine f_new A995 at_159 (pc' := 162) rfl (wd hw 31 rfl) (wd hw 6 rfl) (wd hw 5 rfl) (by decide) (by decide) fun a1041 T1041 h1041 g1041 A1041 E1041 X1041 D1041 => ?_
        have z1041 : n0 ≤ a1041 := Nat.le_trans A995.sz (Nat.le_of_eq g1041.symm)
        have y1041 : h0.size ≤ a1041 := Nat.le_trans Q993.1 (Nat.le_of_eq g1041.symm)
        have Q1042 : Keep h0 h1041 [] := Q993.ext E1041
        have s1041 := Safe.ext E1041 (A995.ch rfl).1 (Safe.new (Nat.le_of_eq g1041.symm))
        refine f_dup A1041 at_162 (pc' := 163) rfl rfl ?_
        refine f_lloadN A1041 at_163 (pc' := 164) rfl rfl ?_
        refine f_iloadN A1041 at_164 (pc' := 165) rfl rfl ?_
        refine f_bipush A1041 at_165 (pc' := 167) rfl 7 rfl ?_
        refine f_iand A1041 at_167 (pc' := 168) rfl (0 : Int32) hn8 ?_
        refine f_callS A1041 at_168 (pc' := 171) rfl (wd hw 118 rfl) (wd hw 119 rfl) (wd hw 2 rfl) (wd hw 120 rfl) (by decide) pd19 [(.long bytes), (.int (0 : Int32))] [(.ref a1041), (.ref a1041)] rfl rfl rfl 2 (Nat.le_of_eq rfl) (CN.pay (W := 2) A1041 (m_dc0 l Z a0 hw bytes d0 d1 d2 d3 d4 d5 d6 h1041 n0 A1041.old hd0 rd0 hd1 rd1 hd2 rd2 hd3 rd3 hd4 rd4 hd5 rd5 hd6 rd6) (wd hw 120 rfl) (wd hw 2 rfl) (by decide) (by decide)) (kc := 1) (ks := 0) (by decide) (by decide) all0 (fun _ => sf0) fun v1043 T1043 h1043 L1043 A1043 K1043 q1043 => ?_
        have Q1044 : Keep h0 h1043 [] := Q1042.trans K1043 all0
        obtain ⟨b1043, kA1043, rfl, bg1043, V1043⟩ := q1043
        show Wp pG e below _ T1043 (mkF m 171 _ [(.ref b1043), (.ref a1041), (.ref a1041)])
        have c1045 := (X1041.keep K1043)
        have c1046 := ((show Fld Z h1041 a1041 "java/lang/String" "value" "[B" .null from D1041 (Or.inr (wd hw 8 rfl)) (ty := (.array .byte)) (by decide)).keep K1043 nin0)
        have c1047 := ((show Fld Z h1041 a1041 "java/lang/String" "coder" "B" (.int (0 : Int32)) from D1041 (Or.inr (wd hw 9 rfl)) (ty := .byte) (by decide)).keep K1043 nin0)
        have c1049 := (Safe.keep K1043 sf0 (A1041.ch rfl).1 s1041)
        refine f_callIW A1043 (a := a1041) at_171 (pc' := 174) rfl rfl (wd hw 61 rfl) (wd hw 62 rfl) (wd hw 63 rfl) (by decide) pd17 [(.ref b1043)] [(.ref a1041)] rfl rfl rfl 1 (Nat.le_of_eq rfl) (CW.pay (W := 1) A1043 hEL (m_new1E l Z a0 hw a1041 b1043 kA1043 [] h1043 n0 A1043.old hEL c1045 c1046 c1047 z1041 V1043) (wd hw 63 rfl) (wd hw 5 rfl) (by decide) (by decide) (allS ⟨(Nat.lt_of_lt_of_le X1041.lt K1043.1), c1049⟩ all0)) (kc := 2) (ks := 4) (by decide) (by decide) (allS z1041 all0) fun v1048 vm1048 T1048 h1048 L1048 A1048 K1048 C1048 q1048 => ?_
        have Q1050 : Keep h0 h1048 [] := Q1044.trans K1048 (allS (Or.inr y1041) all0)
        obtain ⟨rfl, t1048, G1048⟩ := q1048
        show Wp pG e below _ T1048 (mkF m 174 _ [(.ref a1041)])
        refine f_astore A1048 at_174 (pc' := 176) rfl rfl (L' := #[.val (.int sel), .val (.int pos), .val (.int ch), .val (.long bytes), .second, .val (.int (3 : Int32)), .val (.int (2 : Int32)), .val (.ref w992), .val (.ref aL), .val (.int (3 : Int32)), .val (.ref a1041), .unset, .unset, .unset, .unset]) rfl ?_
        refine f_aload A1048 at_176 (pc' := 178) rfl rfl rfl ?_
        refine f_callS A1048 at_178 (pc' := 181) rfl (wd hw 81 rfl) (wd hw 82 rfl) (wd hw 16 rfl) (wd hw 83 rfl) (by decide) pd18 [(.ref a1041)] [] rfl rfl rfl 0 (Nat.le_of_eq rfl) (CN.pay (W := 0) A1048 (m_fk l Z a0 hw aA aD aM aL vv a1041 t1048 [] (vOf aA aD aM aL []) zc O2 P5 h1048 n0 A1048.old hV G1048 rfl) (wd hw 83 rfl) (wd hw 16 rfl) (by decide) (by decide)) (kc := 1) (ks := 4) (by decide) (by decide) all0 (fun _ => sf0) fun v1051 T1051 h1051 L1051 A1051 K1051 q1051 => ?_
        have Q1052 : Keep h0 h1051 [] := Q1050.trans K1051 all0
        obtain rfl := q1051
        show Wp pG e below _ T1051 (mkF m 181 _ [(vOf aA aD aM aL [])])
        refine f_aload A1051 at_181 (pc' := 183) rfl rfl rfl ?_
        have c1053 := (G1048.keep K1051 nin0 nin0)
        refine f_callSW A1051 at_183 (pc' := 186) rfl (wd hw 125 rfl) (wd hw 126 rfl) (wd hw 2 rfl) (wd hw 127 rfl) (by decide) pd18 [(.ref a1041)] [(vOf aA aD aM aL [])] rfl rfl rfl 1 (by show Value.category (vOf aA aD aM aL []) + 0 ≤ 1; rw [cat_ref (vOf_ref _ _ _ _ _)]; exact Nat.le_refl _) (CW.pay (W := 1) A1051 hEL (m_ref l Z a0 hw aA aD aM aL vv a1041 t1048 [] zc O2 P5 h1051 n0 A1051.old hEL hV c1053) (wd hw 127 rfl) (wd hw 2 rfl) (by decide) (by decide) (fun _ q => nomatch q)) (kc := 8) (ks := 88) (by decide) (by decide) all0 fun v1054 vm1054 T1054 h1054 L1054 A1054 K1054 C1054 q1054 => ?_
        have Q1055 : Keep h0 h1054 [] := Q1052.trans K1054 all0
        obtain rfl := q1054
        show Wp pG e below _ T1054 (mkF m 186 _ [(vOf aA aD aM aL []), (vOf aA aD aM aL [])])
        refine f_acmp A1054 (vOf_ref _ _ _ _ _) (vOf_ref _ _ _ _ _) at_186 true (decide_eq_true rfl) (by decide) (pc' := 189) (by decide) ?_
        refine f_iconst A1054 at_189 (pc' := 190) rfl 1 rfl ?_
        refine f_goto A1054 at_190 (pc' := 194) (by decide) (by decide) ?_
        exact f_retBW A1054 hEL hlk hret at_194 (by decide) (1 : Int32) (by decide) (by decide) (by decide) Q1055 rfl
      · refine f_iload A995 at_33 (pc' := 35) rfl rfl ?_
        refine f_ifY A995 at_35 ((if0 _ _).trans (feq (by decide : ¬ (2 : Int32) = (0 : Int32))).2) (pc' := 66) (by decide) (by decide) ?_
        refine f_iload A995 at_66 (pc' := 68) rfl rfl ?_
        refine f_iconst A995 at_68 (pc' := 69) rfl 1 rfl ?_
        refine f_icY A995 at_69 (feq (by decide : ¬ (2 : Int32) = (1 : Int32))).2 (pc' := 153) (by decide) (by decide) ?_
        refine f_iload A995 at_153 (pc' := 155) rfl rfl ?_
        refine f_iconst A995 at_155 (pc' := 156) rfl 2 rfl ?_
        refine f_icN A995 at_156 (teq (by decide : (2 : Int32) = (2 : Int32))).2 (pc' := 159) rfl ?_
        refine f_new A995 at_159 (pc' := 162) rfl (wd hw 31 rfl) (wd hw 6 rfl) (wd hw 5 rfl) (by decide) (by decide) fun a1056 T1056 h1056 g1056 A1056 E1056 X1056 D1056 => ?_
        have z1056 : n0 ≤ a1056 := Nat.le_trans A995.sz (Nat.le_of_eq g1056.symm)
        have y1056 : h0.size ≤ a1056 := Nat.le_trans Q993.1 (Nat.le_of_eq g1056.symm)
        have Q1057 : Keep h0 h1056 [] := Q993.ext E1056
        have s1056 := Safe.ext E1056 (A995.ch rfl).1 (Safe.new (Nat.le_of_eq g1056.symm))
        refine f_dup A1056 at_162 (pc' := 163) rfl rfl ?_
        refine f_lloadN A1056 at_163 (pc' := 164) rfl rfl ?_
        refine f_iloadN A1056 at_164 (pc' := 165) rfl rfl ?_
        refine f_bipush A1056 at_165 (pc' := 167) rfl 7 rfl ?_
        refine f_iand A1056 at_167 (pc' := 168) rfl (1 : Int32) hn8 ?_
        refine f_callS A1056 at_168 (pc' := 171) rfl (wd hw 118 rfl) (wd hw 119 rfl) (wd hw 2 rfl) (wd hw 120 rfl) (by decide) pd19 [(.long bytes), (.int (1 : Int32))] [(.ref a1056), (.ref a1056)] rfl rfl rfl 2 (Nat.le_of_eq rfl) (CN.pay (W := 2) A1056 (m_dc1 l Z a0 hw bytes d0 d1 d2 d3 d4 d5 d6 h1056 n0 A1056.old hd0 rd0 hd1 rd1 hd2 rd2 hd3 rd3 hd4 rd4 hd5 rd5 hd6 rd6) (wd hw 120 rfl) (wd hw 2 rfl) (by decide) (by decide)) (kc := 1) (ks := 1) (by decide) (by decide) all0 (fun _ => sf0) fun v1058 T1058 h1058 L1058 A1058 K1058 q1058 => ?_
        have Q1059 : Keep h0 h1058 [] := Q1057.trans K1058 all0
        obtain ⟨b1058, kA1058, rfl, bg1058, V1058⟩ := q1058
        show Wp pG e below _ T1058 (mkF m 171 _ [(.ref b1058), (.ref a1056), (.ref a1056)])
        have c1060 := (X1056.keep K1058)
        have c1061 := ((show Fld Z h1056 a1056 "java/lang/String" "value" "[B" .null from D1056 (Or.inr (wd hw 8 rfl)) (ty := (.array .byte)) (by decide)).keep K1058 nin0)
        have c1062 := ((show Fld Z h1056 a1056 "java/lang/String" "coder" "B" (.int (0 : Int32)) from D1056 (Or.inr (wd hw 9 rfl)) (ty := .byte) (by decide)).keep K1058 nin0)
        have c1064 := (Safe.keep K1058 sf0 (A1056.ch rfl).1 s1056)
        refine f_callI A1058 (a := a1056) at_171 (pc' := 174) rfl rfl (wd hw 61 rfl) (wd hw 62 rfl) (wd hw 63 rfl) (by decide) pd17 [(.ref b1058)] [(.ref a1056)] rfl rfl rfl 1 (Nat.le_of_eq rfl) (payNew (W := 1) A1058 hw (wd hw 6 rfl) (cs := [d0]) 1 z1056 c1060 c1061 c1062 V1058 O2 P5 rfl rfl (by decide) (by decide) (lc (lat_of rd0) ln) (by decide) (by decide)) (kc := 1) (ks := 1) (by decide) (by decide) (allS z1056 all0) (fun _ => (sfS c1064 sf0)) fun v1063 T1063 h1063 L1063 A1063 K1063 q1063 => ?_
        have Q1065 : Keep h0 h1063 [] := Q1059.trans K1063 (allS (Or.inr y1056) all0)
        obtain ⟨rfl, t1063, tz1063, tg1063, tn1063, G1063⟩ := q1063
        show Wp pG e below _ T1063 (mkF m 174 _ [(.ref a1056)])
        refine f_astore A1063 at_174 (pc' := 176) rfl rfl (L' := #[.val (.int sel), .val (.int pos), .val (.int ch), .val (.long bytes), .second, .val (.int (3 : Int32)), .val (.int (2 : Int32)), .val (.ref w992), .val (.ref aL), .val (.int (3 : Int32)), .val (.ref a1056), .unset, .unset, .unset, .unset]) rfl ?_
        refine f_aload A1063 at_176 (pc' := 178) rfl rfl rfl ?_
        refine f_callS A1063 at_178 (pc' := 181) rfl (wd hw 81 rfl) (wd hw 82 rfl) (wd hw 16 rfl) (wd hw 83 rfl) (by decide) pd18 [(.ref a1056)] [] rfl rfl rfl 0 (Nat.le_of_eq rfl) (CN.pay (W := 0) A1063 (m_fk l Z a0 hw aA aD aM aL vv a1056 t1063 [d0] (vOf aA aD aM aL [d0]) zc O2 P5 h1063 n0 A1063.old hV G1063 rfl) (wd hw 83 rfl) (wd hw 16 rfl) (by decide) (by decide)) (kc := 1) (ks := 4) (by decide) (by decide) all0 (fun _ => sf0) fun v1066 T1066 h1066 L1066 A1066 K1066 q1066 => ?_
        have Q1067 : Keep h0 h1066 [] := Q1065.trans K1066 all0
        obtain rfl := q1066
        show Wp pG e below _ T1066 (mkF m 181 _ [(vOf aA aD aM aL [d0])])
        refine f_aload A1066 at_181 (pc' := 183) rfl rfl rfl ?_
        have c1068 := (G1063.keep K1066 nin0 nin0)
        refine f_callSW A1066 at_183 (pc' := 186) rfl (wd hw 125 rfl) (wd hw 126 rfl) (wd hw 2 rfl) (wd hw 127 rfl) (by decide) pd18 [(.ref a1056)] [(vOf aA aD aM aL [d0])] rfl rfl rfl 1 (by show Value.category (vOf aA aD aM aL [d0]) + 0 ≤ 1; rw [cat_ref (vOf_ref _ _ _ _ _)]; exact Nat.le_refl _) (CW.pay (W := 1) A1066 hEL (m_ref l Z a0 hw aA aD aM aL vv a1056 t1063 [d0] zc O2 P5 h1066 n0 A1066.old hEL hV c1068) (wd hw 127 rfl) (wd hw 2 rfl) (by decide) (by decide) (fun _ q => nomatch q)) (kc := 8) (ks := 88) (by decide) (by decide) all0 fun v1069 vm1069 T1069 h1069 L1069 A1069 K1069 C1069 q1069 => ?_
        have Q1070 : Keep h0 h1069 [] := Q1067.trans K1069 all0
        obtain rfl := q1069
        show Wp pG e below _ T1069 (mkF m 186 _ [(vOf aA aD aM aL [d0]), (vOf aA aD aM aL [d0])])
        refine f_acmp A1069 (vOf_ref _ _ _ _ _) (vOf_ref _ _ _ _ _) at_186 true (decide_eq_true rfl) (by decide) (pc' := 189) (by decide) ?_
        refine f_iconst A1069 at_189 (pc' := 190) rfl 1 rfl ?_
        refine f_goto A1069 at_190 (pc' := 194) (by decide) (by decide) ?_
        exact f_retBW A1069 hEL hlk hret at_194 (by decide) (1 : Int32) (by decide) (by decide) (by decide) Q1070 rfl
      · refine f_iload A995 at_33 (pc' := 35) rfl rfl ?_
        refine f_ifY A995 at_35 ((if0 _ _).trans (feq (by decide : ¬ (2 : Int32) = (0 : Int32))).2) (pc' := 66) (by decide) (by decide) ?_
        refine f_iload A995 at_66 (pc' := 68) rfl rfl ?_
        refine f_iconst A995 at_68 (pc' := 69) rfl 1 rfl ?_
        refine f_icY A995 at_69 (feq (by decide : ¬ (2 : Int32) = (1 : Int32))).2 (pc' := 153) (by decide) (by decide) ?_
        refine f_iload A995 at_153 (pc' := 155) rfl rfl ?_
        refine f_iconst A995 at_155 (pc' := 156) rfl 2 rfl ?_
        refine f_icN A995 at_156 (teq (by decide : (2 : Int32) = (2 : Int32))).2 (pc' := 159) rfl ?_
        refine f_new A995 at_159 (pc' := 162) rfl (wd hw 31 rfl) (wd hw 6 rfl) (wd hw 5 rfl) (by decide) (by decide) fun a1071 T1071 h1071 g1071 A1071 E1071 X1071 D1071 => ?_
        have z1071 : n0 ≤ a1071 := Nat.le_trans A995.sz (Nat.le_of_eq g1071.symm)
        have y1071 : h0.size ≤ a1071 := Nat.le_trans Q993.1 (Nat.le_of_eq g1071.symm)
        have Q1072 : Keep h0 h1071 [] := Q993.ext E1071
        have s1071 := Safe.ext E1071 (A995.ch rfl).1 (Safe.new (Nat.le_of_eq g1071.symm))
        refine f_dup A1071 at_162 (pc' := 163) rfl rfl ?_
        refine f_lloadN A1071 at_163 (pc' := 164) rfl rfl ?_
        refine f_iloadN A1071 at_164 (pc' := 165) rfl rfl ?_
        refine f_bipush A1071 at_165 (pc' := 167) rfl 7 rfl ?_
        refine f_iand A1071 at_167 (pc' := 168) rfl (2 : Int32) hn8 ?_
        refine f_callS A1071 at_168 (pc' := 171) rfl (wd hw 118 rfl) (wd hw 119 rfl) (wd hw 2 rfl) (wd hw 120 rfl) (by decide) pd19 [(.long bytes), (.int (2 : Int32))] [(.ref a1071), (.ref a1071)] rfl rfl rfl 2 (Nat.le_of_eq rfl) (CN.pay (W := 2) A1071 (m_dc2 l Z a0 hw bytes d0 d1 d2 d3 d4 d5 d6 h1071 n0 A1071.old hd0 rd0 hd1 rd1 hd2 rd2 hd3 rd3 hd4 rd4 hd5 rd5 hd6 rd6) (wd hw 120 rfl) (wd hw 2 rfl) (by decide) (by decide)) (kc := 1) (ks := 2) (by decide) (by decide) all0 (fun _ => sf0) fun v1073 T1073 h1073 L1073 A1073 K1073 q1073 => ?_
        have Q1074 : Keep h0 h1073 [] := Q1072.trans K1073 all0
        obtain ⟨b1073, kA1073, rfl, bg1073, V1073⟩ := q1073
        show Wp pG e below _ T1073 (mkF m 171 _ [(.ref b1073), (.ref a1071), (.ref a1071)])
        have c1075 := (X1071.keep K1073)
        have c1076 := ((show Fld Z h1071 a1071 "java/lang/String" "value" "[B" .null from D1071 (Or.inr (wd hw 8 rfl)) (ty := (.array .byte)) (by decide)).keep K1073 nin0)
        have c1077 := ((show Fld Z h1071 a1071 "java/lang/String" "coder" "B" (.int (0 : Int32)) from D1071 (Or.inr (wd hw 9 rfl)) (ty := .byte) (by decide)).keep K1073 nin0)
        have c1079 := (Safe.keep K1073 sf0 (A1071.ch rfl).1 s1071)
        refine f_callI A1073 (a := a1071) at_171 (pc' := 174) rfl rfl (wd hw 61 rfl) (wd hw 62 rfl) (wd hw 63 rfl) (by decide) pd17 [(.ref b1073)] [(.ref a1071)] rfl rfl rfl 1 (Nat.le_of_eq rfl) (payNew (W := 1) A1073 hw (wd hw 6 rfl) (cs := [d0, d1]) 2 z1071 c1075 c1076 c1077 V1073 O2 P5 rfl rfl (by decide) (by decide) (lc (lat_of rd0) (lc (lat_of rd1) ln)) (by decide) (by decide)) (kc := 1) (ks := 2) (by decide) (by decide) (allS z1071 all0) (fun _ => (sfS c1079 sf0)) fun v1078 T1078 h1078 L1078 A1078 K1078 q1078 => ?_
        have Q1080 : Keep h0 h1078 [] := Q1074.trans K1078 (allS (Or.inr y1071) all0)
        obtain ⟨rfl, t1078, tz1078, tg1078, tn1078, G1078⟩ := q1078
        show Wp pG e below _ T1078 (mkF m 174 _ [(.ref a1071)])
        refine f_astore A1078 at_174 (pc' := 176) rfl rfl (L' := #[.val (.int sel), .val (.int pos), .val (.int ch), .val (.long bytes), .second, .val (.int (3 : Int32)), .val (.int (2 : Int32)), .val (.ref w992), .val (.ref aL), .val (.int (3 : Int32)), .val (.ref a1071), .unset, .unset, .unset, .unset]) rfl ?_
        refine f_aload A1078 at_176 (pc' := 178) rfl rfl rfl ?_
        refine f_callS A1078 at_178 (pc' := 181) rfl (wd hw 81 rfl) (wd hw 82 rfl) (wd hw 16 rfl) (wd hw 83 rfl) (by decide) pd18 [(.ref a1071)] [] rfl rfl rfl 0 (Nat.le_of_eq rfl) (CN.pay (W := 0) A1078 (m_fk l Z a0 hw aA aD aM aL vv a1071 t1078 [d0, d1] (vOf aA aD aM aL [d0, d1]) zc O2 P5 h1078 n0 A1078.old hV G1078 rfl) (wd hw 83 rfl) (wd hw 16 rfl) (by decide) (by decide)) (kc := 1) (ks := 4) (by decide) (by decide) all0 (fun _ => sf0) fun v1081 T1081 h1081 L1081 A1081 K1081 q1081 => ?_
        have Q1082 : Keep h0 h1081 [] := Q1080.trans K1081 all0
        obtain rfl := q1081
        show Wp pG e below _ T1081 (mkF m 181 _ [(vOf aA aD aM aL [d0, d1])])
        refine f_aload A1081 at_181 (pc' := 183) rfl rfl rfl ?_
        have c1083 := (G1078.keep K1081 nin0 nin0)
        refine f_callSW A1081 at_183 (pc' := 186) rfl (wd hw 125 rfl) (wd hw 126 rfl) (wd hw 2 rfl) (wd hw 127 rfl) (by decide) pd18 [(.ref a1071)] [(vOf aA aD aM aL [d0, d1])] rfl rfl rfl 1 (by show Value.category (vOf aA aD aM aL [d0, d1]) + 0 ≤ 1; rw [cat_ref (vOf_ref _ _ _ _ _)]; exact Nat.le_refl _) (CW.pay (W := 1) A1081 hEL (m_ref l Z a0 hw aA aD aM aL vv a1071 t1078 [d0, d1] zc O2 P5 h1081 n0 A1081.old hEL hV c1083) (wd hw 127 rfl) (wd hw 2 rfl) (by decide) (by decide) (fun _ q => nomatch q)) (kc := 8) (ks := 88) (by decide) (by decide) all0 fun v1084 vm1084 T1084 h1084 L1084 A1084 K1084 C1084 q1084 => ?_
        have Q1085 : Keep h0 h1084 [] := Q1082.trans K1084 all0
        obtain rfl := q1084
        show Wp pG e below _ T1084 (mkF m 186 _ [(vOf aA aD aM aL [d0, d1]), (vOf aA aD aM aL [d0, d1])])
        refine f_acmp A1084 (vOf_ref _ _ _ _ _) (vOf_ref _ _ _ _ _) at_186 true (decide_eq_true rfl) (by decide) (pc' := 189) (by decide) ?_
        refine f_iconst A1084 at_189 (pc' := 190) rfl 1 rfl ?_
        refine f_goto A1084 at_190 (pc' := 194) (by decide) (by decide) ?_
        exact f_retBW A1084 hEL hlk hret at_194 (by decide) (1 : Int32) (by decide) (by decide) (by decide) Q1085 rfl
      · refine f_iload A995 at_33 (pc' := 35) rfl rfl ?_
        refine f_ifY A995 at_35 ((if0 _ _).trans (feq (by decide : ¬ (2 : Int32) = (0 : Int32))).2) (pc' := 66) (by decide) (by decide) ?_
        refine f_iload A995 at_66 (pc' := 68) rfl rfl ?_
        refine f_iconst A995 at_68 (pc' := 69) rfl 1 rfl ?_
        refine f_icY A995 at_69 (feq (by decide : ¬ (2 : Int32) = (1 : Int32))).2 (pc' := 153) (by decide) (by decide) ?_
        refine f_iload A995 at_153 (pc' := 155) rfl rfl ?_
        refine f_iconst A995 at_155 (pc' := 156) rfl 2 rfl ?_
        refine f_icN A995 at_156 (teq (by decide : (2 : Int32) = (2 : Int32))).2 (pc' := 159) rfl ?_
        refine f_new A995 at_159 (pc' := 162) rfl (wd hw 31 rfl) (wd hw 6 rfl) (wd hw 5 rfl) (by decide) (by decide) fun a1086 T1086 h1086 g1086 A1086 E1086 X1086 D1086 => ?_
        have z1086 : n0 ≤ a1086 := Nat.le_trans A995.sz (Nat.le_of_eq g1086.symm)
        have y1086 : h0.size ≤ a1086 := Nat.le_trans Q993.1 (Nat.le_of_eq g1086.symm)
        have Q1087 : Keep h0 h1086 [] := Q993.ext E1086
        have s1086 := Safe.ext E1086 (A995.ch rfl).1 (Safe.new (Nat.le_of_eq g1086.symm))
        refine f_dup A1086 at_162 (pc' := 163) rfl rfl ?_
        refine f_lloadN A1086 at_163 (pc' := 164) rfl rfl ?_
        refine f_iloadN A1086 at_164 (pc' := 165) rfl rfl ?_
        refine f_bipush A1086 at_165 (pc' := 167) rfl 7 rfl ?_
        refine f_iand A1086 at_167 (pc' := 168) rfl (3 : Int32) hn8 ?_
        refine f_callS A1086 at_168 (pc' := 171) rfl (wd hw 118 rfl) (wd hw 119 rfl) (wd hw 2 rfl) (wd hw 120 rfl) (by decide) pd19 [(.long bytes), (.int (3 : Int32))] [(.ref a1086), (.ref a1086)] rfl rfl rfl 2 (Nat.le_of_eq rfl) (CN.pay (W := 2) A1086 (m_dc3 l Z a0 hw bytes d0 d1 d2 d3 d4 d5 d6 h1086 n0 A1086.old hd0 rd0 hd1 rd1 hd2 rd2 hd3 rd3 hd4 rd4 hd5 rd5 hd6 rd6) (wd hw 120 rfl) (wd hw 2 rfl) (by decide) (by decide)) (kc := 1) (ks := 3) (by decide) (by decide) all0 (fun _ => sf0) fun v1088 T1088 h1088 L1088 A1088 K1088 q1088 => ?_
        have Q1089 : Keep h0 h1088 [] := Q1087.trans K1088 all0
        obtain ⟨b1088, kA1088, rfl, bg1088, V1088⟩ := q1088
        show Wp pG e below _ T1088 (mkF m 171 _ [(.ref b1088), (.ref a1086), (.ref a1086)])
        have c1090 := (X1086.keep K1088)
        have c1091 := ((show Fld Z h1086 a1086 "java/lang/String" "value" "[B" .null from D1086 (Or.inr (wd hw 8 rfl)) (ty := (.array .byte)) (by decide)).keep K1088 nin0)
        have c1092 := ((show Fld Z h1086 a1086 "java/lang/String" "coder" "B" (.int (0 : Int32)) from D1086 (Or.inr (wd hw 9 rfl)) (ty := .byte) (by decide)).keep K1088 nin0)
        have c1094 := (Safe.keep K1088 sf0 (A1086.ch rfl).1 s1086)
        refine f_callI A1088 (a := a1086) at_171 (pc' := 174) rfl rfl (wd hw 61 rfl) (wd hw 62 rfl) (wd hw 63 rfl) (by decide) pd17 [(.ref b1088)] [(.ref a1086)] rfl rfl rfl 1 (Nat.le_of_eq rfl) (payNew (W := 1) A1088 hw (wd hw 6 rfl) (cs := [d0, d1, d2]) 3 z1086 c1090 c1091 c1092 V1088 O2 P5 rfl rfl (by decide) (by decide) (lc (lat_of rd0) (lc (lat_of rd1) (lc (lat_of rd2) ln))) (by decide) (by decide)) (kc := 1) (ks := 3) (by decide) (by decide) (allS z1086 all0) (fun _ => (sfS c1094 sf0)) fun v1093 T1093 h1093 L1093 A1093 K1093 q1093 => ?_
        have Q1095 : Keep h0 h1093 [] := Q1089.trans K1093 (allS (Or.inr y1086) all0)
        obtain ⟨rfl, t1093, tz1093, tg1093, tn1093, G1093⟩ := q1093
        show Wp pG e below _ T1093 (mkF m 174 _ [(.ref a1086)])
        refine f_astore A1093 at_174 (pc' := 176) rfl rfl (L' := #[.val (.int sel), .val (.int pos), .val (.int ch), .val (.long bytes), .second, .val (.int (3 : Int32)), .val (.int (2 : Int32)), .val (.ref w992), .val (.ref aL), .val (.int (3 : Int32)), .val (.ref a1086), .unset, .unset, .unset, .unset]) rfl ?_
        refine f_aload A1093 at_176 (pc' := 178) rfl rfl rfl ?_
        refine f_callS A1093 at_178 (pc' := 181) rfl (wd hw 81 rfl) (wd hw 82 rfl) (wd hw 16 rfl) (wd hw 83 rfl) (by decide) pd18 [(.ref a1086)] [] rfl rfl rfl 0 (Nat.le_of_eq rfl) (CN.pay (W := 0) A1093 (m_fk l Z a0 hw aA aD aM aL vv a1086 t1093 [d0, d1, d2] (vOf aA aD aM aL [d0, d1, d2]) zc O2 P5 h1093 n0 A1093.old hV G1093 rfl) (wd hw 83 rfl) (wd hw 16 rfl) (by decide) (by decide)) (kc := 1) (ks := 4) (by decide) (by decide) all0 (fun _ => sf0) fun v1096 T1096 h1096 L1096 A1096 K1096 q1096 => ?_
        have Q1097 : Keep h0 h1096 [] := Q1095.trans K1096 all0
        obtain rfl := q1096
        show Wp pG e below _ T1096 (mkF m 181 _ [(vOf aA aD aM aL [d0, d1, d2])])
        refine f_aload A1096 at_181 (pc' := 183) rfl rfl rfl ?_
        have c1098 := (G1093.keep K1096 nin0 nin0)
        refine f_callSW A1096 at_183 (pc' := 186) rfl (wd hw 125 rfl) (wd hw 126 rfl) (wd hw 2 rfl) (wd hw 127 rfl) (by decide) pd18 [(.ref a1086)] [(vOf aA aD aM aL [d0, d1, d2])] rfl rfl rfl 1 (by show Value.category (vOf aA aD aM aL [d0, d1, d2]) + 0 ≤ 1; rw [cat_ref (vOf_ref _ _ _ _ _)]; exact Nat.le_refl _) (CW.pay (W := 1) A1096 hEL (m_ref l Z a0 hw aA aD aM aL vv a1086 t1093 [d0, d1, d2] zc O2 P5 h1096 n0 A1096.old hEL hV c1098) (wd hw 127 rfl) (wd hw 2 rfl) (by decide) (by decide) (fun _ q => nomatch q)) (kc := 8) (ks := 88) (by decide) (by decide) all0 fun v1099 vm1099 T1099 h1099 L1099 A1099 K1099 C1099 q1099 => ?_
        have Q1100 : Keep h0 h1099 [] := Q1097.trans K1099 all0
        obtain rfl := q1099
        show Wp pG e below _ T1099 (mkF m 186 _ [(vOf aA aD aM aL [d0, d1, d2]), (vOf aA aD aM aL [d0, d1, d2])])
        refine f_acmp A1099 (vOf_ref _ _ _ _ _) (vOf_ref _ _ _ _ _) at_186 true (decide_eq_true rfl) (by decide) (pc' := 189) (by decide) ?_
        refine f_iconst A1099 at_189 (pc' := 190) rfl 1 rfl ?_
        refine f_goto A1099 at_190 (pc' := 194) (by decide) (by decide) ?_
        exact f_retBW A1099 hEL hlk hret at_194 (by decide) (1 : Int32) (by decide) (by decide) (by decide) Q1100 rfl
      · refine f_iload A995 at_33 (pc' := 35) rfl rfl ?_
        refine f_ifY A995 at_35 ((if0 _ _).trans (feq (by decide : ¬ (2 : Int32) = (0 : Int32))).2) (pc' := 66) (by decide) (by decide) ?_
        refine f_iload A995 at_66 (pc' := 68) rfl rfl ?_
        refine f_iconst A995 at_68 (pc' := 69) rfl 1 rfl ?_
        refine f_icY A995 at_69 (feq (by decide : ¬ (2 : Int32) = (1 : Int32))).2 (pc' := 153) (by decide) (by decide) ?_
        refine f_iload A995 at_153 (pc' := 155) rfl rfl ?_
        refine f_iconst A995 at_155 (pc' := 156) rfl 2 rfl ?_
        refine f_icN A995 at_156 (teq (by decide : (2 : Int32) = (2 : Int32))).2 (pc' := 159) rfl ?_
        refine f_new A995 at_159 (pc' := 162) rfl (wd hw 31 rfl) (wd hw 6 rfl) (wd hw 5 rfl) (by decide) (by decide) fun a1101 T1101 h1101 g1101 A1101 E1101 X1101 D1101 => ?_
        have z1101 : n0 ≤ a1101 := Nat.le_trans A995.sz (Nat.le_of_eq g1101.symm)
        have y1101 : h0.size ≤ a1101 := Nat.le_trans Q993.1 (Nat.le_of_eq g1101.symm)
        have Q1102 : Keep h0 h1101 [] := Q993.ext E1101
        have s1101 := Safe.ext E1101 (A995.ch rfl).1 (Safe.new (Nat.le_of_eq g1101.symm))
        refine f_dup A1101 at_162 (pc' := 163) rfl rfl ?_
        refine f_lloadN A1101 at_163 (pc' := 164) rfl rfl ?_
        refine f_iloadN A1101 at_164 (pc' := 165) rfl rfl ?_
        refine f_bipush A1101 at_165 (pc' := 167) rfl 7 rfl ?_
        refine f_iand A1101 at_167 (pc' := 168) rfl (4 : Int32) hn8 ?_
        refine f_callS A1101 at_168 (pc' := 171) rfl (wd hw 118 rfl) (wd hw 119 rfl) (wd hw 2 rfl) (wd hw 120 rfl) (by decide) pd19 [(.long bytes), (.int (4 : Int32))] [(.ref a1101), (.ref a1101)] rfl rfl rfl 2 (Nat.le_of_eq rfl) (CN.pay (W := 2) A1101 (m_dc4 l Z a0 hw bytes d0 d1 d2 d3 d4 d5 d6 h1101 n0 A1101.old hd0 rd0 hd1 rd1 hd2 rd2 hd3 rd3 hd4 rd4 hd5 rd5 hd6 rd6) (wd hw 120 rfl) (wd hw 2 rfl) (by decide) (by decide)) (kc := 1) (ks := 4) (by decide) (by decide) all0 (fun _ => sf0) fun v1103 T1103 h1103 L1103 A1103 K1103 q1103 => ?_
        have Q1104 : Keep h0 h1103 [] := Q1102.trans K1103 all0
        obtain ⟨b1103, kA1103, rfl, bg1103, V1103⟩ := q1103
        show Wp pG e below _ T1103 (mkF m 171 _ [(.ref b1103), (.ref a1101), (.ref a1101)])
        have c1105 := (X1101.keep K1103)
        have c1106 := ((show Fld Z h1101 a1101 "java/lang/String" "value" "[B" .null from D1101 (Or.inr (wd hw 8 rfl)) (ty := (.array .byte)) (by decide)).keep K1103 nin0)
        have c1107 := ((show Fld Z h1101 a1101 "java/lang/String" "coder" "B" (.int (0 : Int32)) from D1101 (Or.inr (wd hw 9 rfl)) (ty := .byte) (by decide)).keep K1103 nin0)
        have c1109 := (Safe.keep K1103 sf0 (A1101.ch rfl).1 s1101)
        refine f_callI A1103 (a := a1101) at_171 (pc' := 174) rfl rfl (wd hw 61 rfl) (wd hw 62 rfl) (wd hw 63 rfl) (by decide) pd17 [(.ref b1103)] [(.ref a1101)] rfl rfl rfl 1 (Nat.le_of_eq rfl) (payNew (W := 1) A1103 hw (wd hw 6 rfl) (cs := [d0, d1, d2, d3]) 4 z1101 c1105 c1106 c1107 V1103 O2 P5 rfl rfl (by decide) (by decide) (lc (lat_of rd0) (lc (lat_of rd1) (lc (lat_of rd2) (lc (lat_of rd3) ln)))) (by decide) (by decide)) (kc := 1) (ks := 4) (by decide) (by decide) (allS z1101 all0) (fun _ => (sfS c1109 sf0)) fun v1108 T1108 h1108 L1108 A1108 K1108 q1108 => ?_
        have Q1110 : Keep h0 h1108 [] := Q1104.trans K1108 (allS (Or.inr y1101) all0)
        obtain ⟨rfl, t1108, tz1108, tg1108, tn1108, G1108⟩ := q1108
        show Wp pG e below _ T1108 (mkF m 174 _ [(.ref a1101)])
        refine f_astore A1108 at_174 (pc' := 176) rfl rfl (L' := #[.val (.int sel), .val (.int pos), .val (.int ch), .val (.long bytes), .second, .val (.int (3 : Int32)), .val (.int (2 : Int32)), .val (.ref w992), .val (.ref aL), .val (.int (3 : Int32)), .val (.ref a1101), .unset, .unset, .unset, .unset]) rfl ?_
        refine f_aload A1108 at_176 (pc' := 178) rfl rfl rfl ?_
        refine f_callS A1108 at_178 (pc' := 181) rfl (wd hw 81 rfl) (wd hw 82 rfl) (wd hw 16 rfl) (wd hw 83 rfl) (by decide) pd18 [(.ref a1101)] [] rfl rfl rfl 0 (Nat.le_of_eq rfl) (CN.pay (W := 0) A1108 (m_fk l Z a0 hw aA aD aM aL vv a1101 t1108 [d0, d1, d2, d3] (vOf aA aD aM aL [d0, d1, d2, d3]) zc O2 P5 h1108 n0 A1108.old hV G1108 rfl) (wd hw 83 rfl) (wd hw 16 rfl) (by decide) (by decide)) (kc := 1) (ks := 4) (by decide) (by decide) all0 (fun _ => sf0) fun v1111 T1111 h1111 L1111 A1111 K1111 q1111 => ?_
        have Q1112 : Keep h0 h1111 [] := Q1110.trans K1111 all0
        obtain rfl := q1111
        show Wp pG e below _ T1111 (mkF m 181 _ [(vOf aA aD aM aL [d0, d1, d2, d3])])
        refine f_aload A1111 at_181 (pc' := 183) rfl rfl rfl ?_
        have c1113 := (G1108.keep K1111 nin0 nin0)
        refine f_callSW A1111 at_183 (pc' := 186) rfl (wd hw 125 rfl) (wd hw 126 rfl) (wd hw 2 rfl) (wd hw 127 rfl) (by decide) pd18 [(.ref a1101)] [(vOf aA aD aM aL [d0, d1, d2, d3])] rfl rfl rfl 1 (by show Value.category (vOf aA aD aM aL [d0, d1, d2, d3]) + 0 ≤ 1; rw [cat_ref (vOf_ref _ _ _ _ _)]; exact Nat.le_refl _) (CW.pay (W := 1) A1111 hEL (m_ref l Z a0 hw aA aD aM aL vv a1101 t1108 [d0, d1, d2, d3] zc O2 P5 h1111 n0 A1111.old hEL hV c1113) (wd hw 127 rfl) (wd hw 2 rfl) (by decide) (by decide) (fun _ q => nomatch q)) (kc := 8) (ks := 88) (by decide) (by decide) all0 fun v1114 vm1114 T1114 h1114 L1114 A1114 K1114 C1114 q1114 => ?_
        have Q1115 : Keep h0 h1114 [] := Q1112.trans K1114 all0
        obtain rfl := q1114
        show Wp pG e below _ T1114 (mkF m 186 _ [(vOf aA aD aM aL [d0, d1, d2, d3]), (vOf aA aD aM aL [d0, d1, d2, d3])])
        refine f_acmp A1114 (vOf_ref _ _ _ _ _) (vOf_ref _ _ _ _ _) at_186 true (decide_eq_true rfl) (by decide) (pc' := 189) (by decide) ?_
        refine f_iconst A1114 at_189 (pc' := 190) rfl 1 rfl ?_
        refine f_goto A1114 at_190 (pc' := 194) (by decide) (by decide) ?_
        exact f_retBW A1114 hEL hlk hret at_194 (by decide) (1 : Int32) (by decide) (by decide) (by decide) Q1115 rfl
      · refine f_iload A995 at_33 (pc' := 35) rfl rfl ?_
        refine f_ifY A995 at_35 ((if0 _ _).trans (feq (by decide : ¬ (2 : Int32) = (0 : Int32))).2) (pc' := 66) (by decide) (by decide) ?_
        refine f_iload A995 at_66 (pc' := 68) rfl rfl ?_
        refine f_iconst A995 at_68 (pc' := 69) rfl 1 rfl ?_
        refine f_icY A995 at_69 (feq (by decide : ¬ (2 : Int32) = (1 : Int32))).2 (pc' := 153) (by decide) (by decide) ?_
        refine f_iload A995 at_153 (pc' := 155) rfl rfl ?_
        refine f_iconst A995 at_155 (pc' := 156) rfl 2 rfl ?_
        refine f_icN A995 at_156 (teq (by decide : (2 : Int32) = (2 : Int32))).2 (pc' := 159) rfl ?_
        refine f_new A995 at_159 (pc' := 162) rfl (wd hw 31 rfl) (wd hw 6 rfl) (wd hw 5 rfl) (by decide) (by decide) fun a1116 T1116 h1116 g1116 A1116 E1116 X1116 D1116 => ?_
        have z1116 : n0 ≤ a1116 := Nat.le_trans A995.sz (Nat.le_of_eq g1116.symm)
        have y1116 : h0.size ≤ a1116 := Nat.le_trans Q993.1 (Nat.le_of_eq g1116.symm)
        have Q1117 : Keep h0 h1116 [] := Q993.ext E1116
        have s1116 := Safe.ext E1116 (A995.ch rfl).1 (Safe.new (Nat.le_of_eq g1116.symm))
        refine f_dup A1116 at_162 (pc' := 163) rfl rfl ?_
        refine f_lloadN A1116 at_163 (pc' := 164) rfl rfl ?_
        refine f_iloadN A1116 at_164 (pc' := 165) rfl rfl ?_
        refine f_bipush A1116 at_165 (pc' := 167) rfl 7 rfl ?_
        refine f_iand A1116 at_167 (pc' := 168) rfl (5 : Int32) hn8 ?_
        refine f_callS A1116 at_168 (pc' := 171) rfl (wd hw 118 rfl) (wd hw 119 rfl) (wd hw 2 rfl) (wd hw 120 rfl) (by decide) pd19 [(.long bytes), (.int (5 : Int32))] [(.ref a1116), (.ref a1116)] rfl rfl rfl 2 (Nat.le_of_eq rfl) (CN.pay (W := 2) A1116 (m_dc5 l Z a0 hw bytes d0 d1 d2 d3 d4 d5 d6 h1116 n0 A1116.old hd0 rd0 hd1 rd1 hd2 rd2 hd3 rd3 hd4 rd4 hd5 rd5 hd6 rd6) (wd hw 120 rfl) (wd hw 2 rfl) (by decide) (by decide)) (kc := 1) (ks := 5) (by decide) (by decide) all0 (fun _ => sf0) fun v1118 T1118 h1118 L1118 A1118 K1118 q1118 => ?_
        have Q1119 : Keep h0 h1118 [] := Q1117.trans K1118 all0
        obtain ⟨b1118, kA1118, rfl, bg1118, V1118⟩ := q1118
        show Wp pG e below _ T1118 (mkF m 171 _ [(.ref b1118), (.ref a1116), (.ref a1116)])
        have c1120 := (X1116.keep K1118)
        have c1121 := ((show Fld Z h1116 a1116 "java/lang/String" "value" "[B" .null from D1116 (Or.inr (wd hw 8 rfl)) (ty := (.array .byte)) (by decide)).keep K1118 nin0)
        have c1122 := ((show Fld Z h1116 a1116 "java/lang/String" "coder" "B" (.int (0 : Int32)) from D1116 (Or.inr (wd hw 9 rfl)) (ty := .byte) (by decide)).keep K1118 nin0)
        have c1124 := (Safe.keep K1118 sf0 (A1116.ch rfl).1 s1116)
        refine f_callI A1118 (a := a1116) at_171 (pc' := 174) rfl rfl (wd hw 61 rfl) (wd hw 62 rfl) (wd hw 63 rfl) (by decide) pd17 [(.ref b1118)] [(.ref a1116)] rfl rfl rfl 1 (Nat.le_of_eq rfl) (payNew (W := 1) A1118 hw (wd hw 6 rfl) (cs := [d0, d1, d2, d3, d4]) 5 z1116 c1120 c1121 c1122 V1118 O2 P5 rfl rfl (by decide) (by decide) (lc (lat_of rd0) (lc (lat_of rd1) (lc (lat_of rd2) (lc (lat_of rd3) (lc (lat_of rd4) ln))))) (by decide) (by decide)) (kc := 1) (ks := 5) (by decide) (by decide) (allS z1116 all0) (fun _ => (sfS c1124 sf0)) fun v1123 T1123 h1123 L1123 A1123 K1123 q1123 => ?_
        have Q1125 : Keep h0 h1123 [] := Q1119.trans K1123 (allS (Or.inr y1116) all0)
        obtain ⟨rfl, t1123, tz1123, tg1123, tn1123, G1123⟩ := q1123
        show Wp pG e below _ T1123 (mkF m 174 _ [(.ref a1116)])
        refine f_astore A1123 at_174 (pc' := 176) rfl rfl (L' := #[.val (.int sel), .val (.int pos), .val (.int ch), .val (.long bytes), .second, .val (.int (3 : Int32)), .val (.int (2 : Int32)), .val (.ref w992), .val (.ref aL), .val (.int (3 : Int32)), .val (.ref a1116), .unset, .unset, .unset, .unset]) rfl ?_
        refine f_aload A1123 at_176 (pc' := 178) rfl rfl rfl ?_
        refine f_callS A1123 at_178 (pc' := 181) rfl (wd hw 81 rfl) (wd hw 82 rfl) (wd hw 16 rfl) (wd hw 83 rfl) (by decide) pd18 [(.ref a1116)] [] rfl rfl rfl 0 (Nat.le_of_eq rfl) (CN.pay (W := 0) A1123 (m_fk l Z a0 hw aA aD aM aL vv a1116 t1123 [d0, d1, d2, d3, d4] (vOf aA aD aM aL [d0, d1, d2, d3, d4]) zc O2 P5 h1123 n0 A1123.old hV G1123 rfl) (wd hw 83 rfl) (wd hw 16 rfl) (by decide) (by decide)) (kc := 1) (ks := 4) (by decide) (by decide) all0 (fun _ => sf0) fun v1126 T1126 h1126 L1126 A1126 K1126 q1126 => ?_
        have Q1127 : Keep h0 h1126 [] := Q1125.trans K1126 all0
        obtain rfl := q1126
        show Wp pG e below _ T1126 (mkF m 181 _ [(vOf aA aD aM aL [d0, d1, d2, d3, d4])])
        refine f_aload A1126 at_181 (pc' := 183) rfl rfl rfl ?_
        have c1128 := (G1123.keep K1126 nin0 nin0)
        refine f_callSW A1126 at_183 (pc' := 186) rfl (wd hw 125 rfl) (wd hw 126 rfl) (wd hw 2 rfl) (wd hw 127 rfl) (by decide) pd18 [(.ref a1116)] [(vOf aA aD aM aL [d0, d1, d2, d3, d4])] rfl rfl rfl 1 (by show Value.category (vOf aA aD aM aL [d0, d1, d2, d3, d4]) + 0 ≤ 1; rw [cat_ref (vOf_ref _ _ _ _ _)]; exact Nat.le_refl _) (CW.pay (W := 1) A1126 hEL (m_ref l Z a0 hw aA aD aM aL vv a1116 t1123 [d0, d1, d2, d3, d4] zc O2 P5 h1126 n0 A1126.old hEL hV c1128) (wd hw 127 rfl) (wd hw 2 rfl) (by decide) (by decide) (fun _ q => nomatch q)) (kc := 8) (ks := 88) (by decide) (by decide) all0 fun v1129 vm1129 T1129 h1129 L1129 A1129 K1129 C1129 q1129 => ?_
        have Q1130 : Keep h0 h1129 [] := Q1127.trans K1129 all0
        obtain rfl := q1129
        show Wp pG e below _ T1129 (mkF m 186 _ [(vOf aA aD aM aL [d0, d1, d2, d3, d4]), (vOf aA aD aM aL [d0, d1, d2, d3, d4])])
        refine f_acmp A1129 (vOf_ref _ _ _ _ _) (vOf_ref _ _ _ _ _) at_186 true (decide_eq_true rfl) (by decide) (pc' := 189) (by decide) ?_
        refine f_iconst A1129 at_189 (pc' := 190) rfl 1 rfl ?_
        refine f_goto A1129 at_190 (pc' := 194) (by decide) (by decide) ?_
        exact f_retBW A1129 hEL hlk hret at_194 (by decide) (1 : Int32) (by decide) (by decide) (by decide) Q1130 rfl
      · refine f_iload A995 at_33 (pc' := 35) rfl rfl ?_
        refine f_ifY A995 at_35 ((if0 _ _).trans (feq (by decide : ¬ (2 : Int32) = (0 : Int32))).2) (pc' := 66) (by decide) (by decide) ?_
        refine f_iload A995 at_66 (pc' := 68) rfl rfl ?_
        refine f_iconst A995 at_68 (pc' := 69) rfl 1 rfl ?_
        refine f_icY A995 at_69 (feq (by decide : ¬ (2 : Int32) = (1 : Int32))).2 (pc' := 153) (by decide) (by decide) ?_
        refine f_iload A995 at_153 (pc' := 155) rfl rfl ?_
        refine f_iconst A995 at_155 (pc' := 156) rfl 2 rfl ?_
        refine f_icN A995 at_156 (teq (by decide : (2 : Int32) = (2 : Int32))).2 (pc' := 159) rfl ?_
        refine f_new A995 at_159 (pc' := 162) rfl (wd hw 31 rfl) (wd hw 6 rfl) (wd hw 5 rfl) (by decide) (by decide) fun a1131 T1131 h1131 g1131 A1131 E1131 X1131 D1131 => ?_
        have z1131 : n0 ≤ a1131 := Nat.le_trans A995.sz (Nat.le_of_eq g1131.symm)
        have y1131 : h0.size ≤ a1131 := Nat.le_trans Q993.1 (Nat.le_of_eq g1131.symm)
        have Q1132 : Keep h0 h1131 [] := Q993.ext E1131
        have s1131 := Safe.ext E1131 (A995.ch rfl).1 (Safe.new (Nat.le_of_eq g1131.symm))
        refine f_dup A1131 at_162 (pc' := 163) rfl rfl ?_
        refine f_lloadN A1131 at_163 (pc' := 164) rfl rfl ?_
        refine f_iloadN A1131 at_164 (pc' := 165) rfl rfl ?_
        refine f_bipush A1131 at_165 (pc' := 167) rfl 7 rfl ?_
        refine f_iand A1131 at_167 (pc' := 168) rfl (6 : Int32) hn8 ?_
        refine f_callS A1131 at_168 (pc' := 171) rfl (wd hw 118 rfl) (wd hw 119 rfl) (wd hw 2 rfl) (wd hw 120 rfl) (by decide) pd19 [(.long bytes), (.int (6 : Int32))] [(.ref a1131), (.ref a1131)] rfl rfl rfl 2 (Nat.le_of_eq rfl) (CN.pay (W := 2) A1131 (m_dc6 l Z a0 hw bytes d0 d1 d2 d3 d4 d5 d6 h1131 n0 A1131.old hd0 rd0 hd1 rd1 hd2 rd2 hd3 rd3 hd4 rd4 hd5 rd5 hd6 rd6) (wd hw 120 rfl) (wd hw 2 rfl) (by decide) (by decide)) (kc := 1) (ks := 6) (by decide) (by decide) all0 (fun _ => sf0) fun v1133 T1133 h1133 L1133 A1133 K1133 q1133 => ?_
        have Q1134 : Keep h0 h1133 [] := Q1132.trans K1133 all0
        obtain ⟨b1133, kA1133, rfl, bg1133, V1133⟩ := q1133
        show Wp pG e below _ T1133 (mkF m 171 _ [(.ref b1133), (.ref a1131), (.ref a1131)])
        have c1135 := (X1131.keep K1133)
        have c1136 := ((show Fld Z h1131 a1131 "java/lang/String" "value" "[B" .null from D1131 (Or.inr (wd hw 8 rfl)) (ty := (.array .byte)) (by decide)).keep K1133 nin0)
        have c1137 := ((show Fld Z h1131 a1131 "java/lang/String" "coder" "B" (.int (0 : Int32)) from D1131 (Or.inr (wd hw 9 rfl)) (ty := .byte) (by decide)).keep K1133 nin0)
        have c1139 := (Safe.keep K1133 sf0 (A1131.ch rfl).1 s1131)
        refine f_callI A1133 (a := a1131) at_171 (pc' := 174) rfl rfl (wd hw 61 rfl) (wd hw 62 rfl) (wd hw 63 rfl) (by decide) pd17 [(.ref b1133)] [(.ref a1131)] rfl rfl rfl 1 (Nat.le_of_eq rfl) (payNew (W := 1) A1133 hw (wd hw 6 rfl) (cs := [d0, d1, d2, d3, d4, d5]) 6 z1131 c1135 c1136 c1137 V1133 O2 P5 rfl rfl (by decide) (by decide) (lc (lat_of rd0) (lc (lat_of rd1) (lc (lat_of rd2) (lc (lat_of rd3) (lc (lat_of rd4) (lc (lat_of rd5) ln)))))) (by decide) (by decide)) (kc := 1) (ks := 6) (by decide) (by decide) (allS z1131 all0) (fun _ => (sfS c1139 sf0)) fun v1138 T1138 h1138 L1138 A1138 K1138 q1138 => ?_
        have Q1140 : Keep h0 h1138 [] := Q1134.trans K1138 (allS (Or.inr y1131) all0)
        obtain ⟨rfl, t1138, tz1138, tg1138, tn1138, G1138⟩ := q1138
        show Wp pG e below _ T1138 (mkF m 174 _ [(.ref a1131)])
        refine f_astore A1138 at_174 (pc' := 176) rfl rfl (L' := #[.val (.int sel), .val (.int pos), .val (.int ch), .val (.long bytes), .second, .val (.int (3 : Int32)), .val (.int (2 : Int32)), .val (.ref w992), .val (.ref aL), .val (.int (3 : Int32)), .val (.ref a1131), .unset, .unset, .unset, .unset]) rfl ?_
        refine f_aload A1138 at_176 (pc' := 178) rfl rfl rfl ?_
        refine f_callS A1138 at_178 (pc' := 181) rfl (wd hw 81 rfl) (wd hw 82 rfl) (wd hw 16 rfl) (wd hw 83 rfl) (by decide) pd18 [(.ref a1131)] [] rfl rfl rfl 0 (Nat.le_of_eq rfl) (CN.pay (W := 0) A1138 (m_fk l Z a0 hw aA aD aM aL vv a1131 t1138 [d0, d1, d2, d3, d4, d5] (vOf aA aD aM aL [d0, d1, d2, d3, d4, d5]) zc O2 P5 h1138 n0 A1138.old hV G1138 rfl) (wd hw 83 rfl) (wd hw 16 rfl) (by decide) (by decide)) (kc := 1) (ks := 4) (by decide) (by decide) all0 (fun _ => sf0) fun v1141 T1141 h1141 L1141 A1141 K1141 q1141 => ?_
        have Q1142 : Keep h0 h1141 [] := Q1140.trans K1141 all0
        obtain rfl := q1141
        show Wp pG e below _ T1141 (mkF m 181 _ [(vOf aA aD aM aL [d0, d1, d2, d3, d4, d5])])
        refine f_aload A1141 at_181 (pc' := 183) rfl rfl rfl ?_
        have c1143 := (G1138.keep K1141 nin0 nin0)
        refine f_callSW A1141 at_183 (pc' := 186) rfl (wd hw 125 rfl) (wd hw 126 rfl) (wd hw 2 rfl) (wd hw 127 rfl) (by decide) pd18 [(.ref a1131)] [(vOf aA aD aM aL [d0, d1, d2, d3, d4, d5])] rfl rfl rfl 1 (by show Value.category (vOf aA aD aM aL [d0, d1, d2, d3, d4, d5]) + 0 ≤ 1; rw [cat_ref (vOf_ref _ _ _ _ _)]; exact Nat.le_refl _) (CW.pay (W := 1) A1141 hEL (m_ref l Z a0 hw aA aD aM aL vv a1131 t1138 [d0, d1, d2, d3, d4, d5] zc O2 P5 h1141 n0 A1141.old hEL hV c1143) (wd hw 127 rfl) (wd hw 2 rfl) (by decide) (by decide) (fun _ q => nomatch q)) (kc := 8) (ks := 88) (by decide) (by decide) all0 fun v1144 vm1144 T1144 h1144 L1144 A1144 K1144 C1144 q1144 => ?_
        have Q1145 : Keep h0 h1144 [] := Q1142.trans K1144 all0
        obtain rfl := q1144
        show Wp pG e below _ T1144 (mkF m 186 _ [(vOf aA aD aM aL [d0, d1, d2, d3, d4, d5]), (vOf aA aD aM aL [d0, d1, d2, d3, d4, d5])])
        refine f_acmp A1144 (vOf_ref _ _ _ _ _) (vOf_ref _ _ _ _ _) at_186 true (decide_eq_true rfl) (by decide) (pc' := 189) (by decide) ?_
        refine f_iconst A1144 at_189 (pc' := 190) rfl 1 rfl ?_
        refine f_goto A1144 at_190 (pc' := 194) (by decide) (by decide) ?_
        exact f_retBW A1144 hEL hlk hret at_194 (by decide) (1 : Int32) (by decide) (by decide) (by decide) Q1145 rfl
      · refine f_iload A995 at_33 (pc' := 35) rfl rfl ?_
        refine f_ifY A995 at_35 ((if0 _ _).trans (feq (by decide : ¬ (2 : Int32) = (0 : Int32))).2) (pc' := 66) (by decide) (by decide) ?_
        refine f_iload A995 at_66 (pc' := 68) rfl rfl ?_
        refine f_iconst A995 at_68 (pc' := 69) rfl 1 rfl ?_
        refine f_icY A995 at_69 (feq (by decide : ¬ (2 : Int32) = (1 : Int32))).2 (pc' := 153) (by decide) (by decide) ?_
        refine f_iload A995 at_153 (pc' := 155) rfl rfl ?_
        refine f_iconst A995 at_155 (pc' := 156) rfl 2 rfl ?_
        refine f_icN A995 at_156 (teq (by decide : (2 : Int32) = (2 : Int32))).2 (pc' := 159) rfl ?_
        refine f_new A995 at_159 (pc' := 162) rfl (wd hw 31 rfl) (wd hw 6 rfl) (wd hw 5 rfl) (by decide) (by decide) fun a1146 T1146 h1146 g1146 A1146 E1146 X1146 D1146 => ?_
        have z1146 : n0 ≤ a1146 := Nat.le_trans A995.sz (Nat.le_of_eq g1146.symm)
        have y1146 : h0.size ≤ a1146 := Nat.le_trans Q993.1 (Nat.le_of_eq g1146.symm)
        have Q1147 : Keep h0 h1146 [] := Q993.ext E1146
        have s1146 := Safe.ext E1146 (A995.ch rfl).1 (Safe.new (Nat.le_of_eq g1146.symm))
        refine f_dup A1146 at_162 (pc' := 163) rfl rfl ?_
        refine f_lloadN A1146 at_163 (pc' := 164) rfl rfl ?_
        refine f_iloadN A1146 at_164 (pc' := 165) rfl rfl ?_
        refine f_bipush A1146 at_165 (pc' := 167) rfl 7 rfl ?_
        refine f_iand A1146 at_167 (pc' := 168) rfl (7 : Int32) hn8 ?_
        refine f_callS A1146 at_168 (pc' := 171) rfl (wd hw 118 rfl) (wd hw 119 rfl) (wd hw 2 rfl) (wd hw 120 rfl) (by decide) pd19 [(.long bytes), (.int (7 : Int32))] [(.ref a1146), (.ref a1146)] rfl rfl rfl 2 (Nat.le_of_eq rfl) (CN.pay (W := 2) A1146 (m_dc7 l Z a0 hw bytes d0 d1 d2 d3 d4 d5 d6 h1146 n0 A1146.old hd0 rd0 hd1 rd1 hd2 rd2 hd3 rd3 hd4 rd4 hd5 rd5 hd6 rd6) (wd hw 120 rfl) (wd hw 2 rfl) (by decide) (by decide)) (kc := 1) (ks := 7) (by decide) (by decide) all0 (fun _ => sf0) fun v1148 T1148 h1148 L1148 A1148 K1148 q1148 => ?_
        have Q1149 : Keep h0 h1148 [] := Q1147.trans K1148 all0
        obtain ⟨b1148, kA1148, rfl, bg1148, V1148⟩ := q1148
        show Wp pG e below _ T1148 (mkF m 171 _ [(.ref b1148), (.ref a1146), (.ref a1146)])
        have c1150 := (X1146.keep K1148)
        have c1151 := ((show Fld Z h1146 a1146 "java/lang/String" "value" "[B" .null from D1146 (Or.inr (wd hw 8 rfl)) (ty := (.array .byte)) (by decide)).keep K1148 nin0)
        have c1152 := ((show Fld Z h1146 a1146 "java/lang/String" "coder" "B" (.int (0 : Int32)) from D1146 (Or.inr (wd hw 9 rfl)) (ty := .byte) (by decide)).keep K1148 nin0)
        have c1154 := (Safe.keep K1148 sf0 (A1146.ch rfl).1 s1146)
        refine f_callI A1148 (a := a1146) at_171 (pc' := 174) rfl rfl (wd hw 61 rfl) (wd hw 62 rfl) (wd hw 63 rfl) (by decide) pd17 [(.ref b1148)] [(.ref a1146)] rfl rfl rfl 1 (Nat.le_of_eq rfl) (payNew (W := 1) A1148 hw (wd hw 6 rfl) (cs := [d0, d1, d2, d3, d4, d5, d6]) 7 z1146 c1150 c1151 c1152 V1148 O2 P5 rfl rfl (by decide) (by decide) (lc (lat_of rd0) (lc (lat_of rd1) (lc (lat_of rd2) (lc (lat_of rd3) (lc (lat_of rd4) (lc (lat_of rd5) (lc (lat_of rd6) ln))))))) (by decide) (by decide)) (kc := 1) (ks := 7) (by decide) (by decide) (allS z1146 all0) (fun _ => (sfS c1154 sf0)) fun v1153 T1153 h1153 L1153 A1153 K1153 q1153 => ?_
        have Q1155 : Keep h0 h1153 [] := Q1149.trans K1153 (allS (Or.inr y1146) all0)
        obtain ⟨rfl, t1153, tz1153, tg1153, tn1153, G1153⟩ := q1153
        show Wp pG e below _ T1153 (mkF m 174 _ [(.ref a1146)])
        refine f_astore A1153 at_174 (pc' := 176) rfl rfl (L' := #[.val (.int sel), .val (.int pos), .val (.int ch), .val (.long bytes), .second, .val (.int (3 : Int32)), .val (.int (2 : Int32)), .val (.ref w992), .val (.ref aL), .val (.int (3 : Int32)), .val (.ref a1146), .unset, .unset, .unset, .unset]) rfl ?_
        refine f_aload A1153 at_176 (pc' := 178) rfl rfl rfl ?_
        refine f_callS A1153 at_178 (pc' := 181) rfl (wd hw 81 rfl) (wd hw 82 rfl) (wd hw 16 rfl) (wd hw 83 rfl) (by decide) pd18 [(.ref a1146)] [] rfl rfl rfl 0 (Nat.le_of_eq rfl) (CN.pay (W := 0) A1153 (m_fk l Z a0 hw aA aD aM aL vv a1146 t1153 [d0, d1, d2, d3, d4, d5, d6] (vOf aA aD aM aL [d0, d1, d2, d3, d4, d5, d6]) zc O2 P5 h1153 n0 A1153.old hV G1153 rfl) (wd hw 83 rfl) (wd hw 16 rfl) (by decide) (by decide)) (kc := 1) (ks := 4) (by decide) (by decide) all0 (fun _ => sf0) fun v1156 T1156 h1156 L1156 A1156 K1156 q1156 => ?_
        have Q1157 : Keep h0 h1156 [] := Q1155.trans K1156 all0
        obtain rfl := q1156
        show Wp pG e below _ T1156 (mkF m 181 _ [(vOf aA aD aM aL [d0, d1, d2, d3, d4, d5, d6])])
        refine f_aload A1156 at_181 (pc' := 183) rfl rfl rfl ?_
        have c1158 := (G1153.keep K1156 nin0 nin0)
        refine f_callSW A1156 at_183 (pc' := 186) rfl (wd hw 125 rfl) (wd hw 126 rfl) (wd hw 2 rfl) (wd hw 127 rfl) (by decide) pd18 [(.ref a1146)] [(vOf aA aD aM aL [d0, d1, d2, d3, d4, d5, d6])] rfl rfl rfl 1 (by show Value.category (vOf aA aD aM aL [d0, d1, d2, d3, d4, d5, d6]) + 0 ≤ 1; rw [cat_ref (vOf_ref _ _ _ _ _)]; exact Nat.le_refl _) (CW.pay (W := 1) A1156 hEL (m_ref l Z a0 hw aA aD aM aL vv a1146 t1153 [d0, d1, d2, d3, d4, d5, d6] zc O2 P5 h1156 n0 A1156.old hEL hV c1158) (wd hw 127 rfl) (wd hw 2 rfl) (by decide) (by decide) (fun _ q => nomatch q)) (kc := 8) (ks := 88) (by decide) (by decide) all0 fun v1159 vm1159 T1159 h1159 L1159 A1159 K1159 C1159 q1159 => ?_
        have Q1160 : Keep h0 h1159 [] := Q1157.trans K1159 all0
        obtain rfl := q1159
        show Wp pG e below _ T1159 (mkF m 186 _ [(vOf aA aD aM aL [d0, d1, d2, d3, d4, d5, d6]), (vOf aA aD aM aL [d0, d1, d2, d3, d4, d5, d6])])
        refine f_acmp A1159 (vOf_ref _ _ _ _ _) (vOf_ref _ _ _ _ _) at_186 true (decide_eq_true rfl) (by decide) (pc' := 189) (by decide) ?_
        refine f_iconst A1159 at_189 (pc' := 190) rfl 1 rfl ?_
        refine f_goto A1159 at_190 (pc' := 194) (by decide) (by decide) ?_
        exact f_retBW A1159 hEL hlk hret at_194 (by decide) (1 : Int32) (by decide) (by decide) (by decide) Q1160 rfl
    · refine f_iload A995 at_33 (pc' := 35) rfl rfl ?_
      refine f_ifY A995 at_35 ((if0 _ _).trans (feq (by decide : ¬ (3 : Int32) = (0 : Int32))).2) (pc' := 66) (by decide) (by decide) ?_
      refine f_iload A995 at_66 (pc' := 68) rfl rfl ?_
      refine f_iconst A995 at_68 (pc' := 69) rfl 1 rfl ?_
      refine f_icY A995 at_69 (feq (by decide : ¬ (3 : Int32) = (1 : Int32))).2 (pc' := 153) (by decide) (by decide) ?_
      refine f_iload A995 at_153 (pc' := 155) rfl rfl ?_
      refine f_iconst A995 at_155 (pc' := 156) rfl 2 rfl ?_
      refine f_icY A995 at_156 (feq (by decide : ¬ (3 : Int32) = (2 : Int32))).2 (pc' := 195) (by decide) (by decide) ?_
      refine f_iloadN A995 at_195 (pc' := 196) rfl rfl ?_
      refine f_iconst A995 at_196 (pc' := 197) rfl 1 rfl ?_
      refine f_iand A995 at_197 (pc' := 198) rfl (ch &&& (1 : Int32)) rfl ?_
      by_cases qb : ch &&& 1 = 0
      · refine f_ifN A995 at_198 ((if0 _ _).trans (teq qb).2) (pc' := 201) rfl ?_
        refine f_aconst_null A995 at_201 (pc' := 202) rfl ?_
        refine f_callS A995 at_202 (pc' := 205) rfl (wd hw 81 rfl) (wd hw 82 rfl) (wd hw 16 rfl) (wd hw 83 rfl) (by decide) pd18 [.null] [] rfl rfl rfl 0 (Nat.le_of_eq rfl) (CN.pay (W := 0) A995 (m_fkN l Z a0 hw aA aD aM aL vv h992 n0 A995.old hV) (wd hw 83 rfl) (wd hw 16 rfl) (by decide) (by decide)) (kc := 1) (ks := 4) (by decide) (by decide) all0 (fun _ => sf0) fun v1161 T1161 h1161 L1161 A1161 K1161 q1161 => ?_
        have Q1162 : Keep h0 h1161 [] := Q993.trans K1161 all0
        obtain rfl := q1161
        show Wp pG e below _ T1161 (mkF m 205 _ [.null])
        refine f_nonN A1161 at_205 (pc' := 208) rfl ?_
        refine f_iconst A1161 at_208 (pc' := 209) rfl 1 rfl ?_
        refine f_goto A1161 at_209 (pc' := 213) (by decide) (by decide) ?_
        exact f_retBW A1161 hEL hlk hret at_213 (by decide) (1 : Int32) (by decide) (by decide) (by decide) Q1162 rfl
      · refine f_ifY A995 at_198 ((if0 _ _).trans (feq qb).2) (pc' := 214) (by decide) (by decide) ?_
        refine f_aload A995 at_214 (pc' := 216) rfl rfl rfl ?_
        refine f_iload A995 at_216 (pc' := 218) rfl rfl ?_
        refine f_iconst A995 at_218 (pc' := 219) rfl 1 rfl ?_
        refine f_iadd A995 at_219 (pc' := 220) rfl (4 : Int32) (by decide) ?_
        refine f_callS A995 at_220 (pc' := 223) rfl (wd hw 32 rfl) (wd hw 33 rfl) (wd hw 2 rfl) (wd hw 34 rfl) (by decide) pd16 [(.ref w992), (.int (4 : Int32))] [] rfl rfl rfl 0 (Nat.le_of_eq rfl) (CN.pay (W := 0) A995 (m_ck31 l Z a0 hw w992 u992 zc O2 P5 fm O4 rG3 h992 n0 A995.old G992) (wd hw 34 rfl) (wd hw 2 rfl) (by decide) (by decide)) (kc := 1) (ks := 4) (by decide) (by decide) all0 (fun _ => sf0) fun v1163 T1163 h1163 L1163 A1163 K1163 q1163 => ?_
        have Q1164 : Keep h0 h1163 [] := Q993.trans K1163 all0
        obtain ⟨b1163, kA1163, rfl, bg1163, V1163⟩ := q1163
        show Wp pG e below _ T1163 (mkF m 223 _ [(.ref b1163)])
        refine f_astore A1163 at_223 (pc' := 225) rfl rfl (L' := #[.val (.int sel), .val (.int pos), .val (.int ch), .val (.long bytes), .second, .val (.int (3 : Int32)), .val (.int (3 : Int32)), .val (.ref w992), .val (.ref aL), .val (.int (3 : Int32)), .val (.ref b1163), .unset, .unset, .unset, .unset]) rfl ?_
        refine f_aload A1163 at_225 (pc' := 227) rfl rfl rfl ?_
        refine f_iload A1163 at_227 (pc' := 229) rfl rfl ?_
        refine f_iloadN A1163 at_229 (pc' := 230) rfl rfl ?_
        refine f_iconst A1163 at_230 (pc' := 231) rfl 1 rfl ?_
        refine f_iushr A1163 at_231 (pc' := 232) rfl ((ch.toUInt32 >>> ((1 : Int32) &&& 31).toUInt32).toInt32) rfl ?_
        refine f_i2c A1163 at_232 (pc' := 233) rfl c3 hc3 ?_
        refine f_castore A1163 at_233 (pc' := 234) rfl V1163 ⟨by decide, by decide⟩ 3 (by decide) (Nat.le_of_ble_eq_true rfl) c3 (nar_id rc3) (vs' := [(.int (108 : Int32)), (.int (111 : Int32)), (.int (103 : Int32)), (.int c3)]) rfl (Nat.le_trans A995.sz bg1163) (fun _ => (Safe.arv A1163.hZ.alike V1163 (by decide))) fun T1165 h1165 A1165 K1165 V1165 => ?_
        have Q1166 : Keep h0 h1165 [] := Q1164.trans K1165 (allS (Or.inr (Nat.le_trans Q993.1 bg1163)) all0)
        by_cases q8 : (255 : Int32) < c3
        · refine f_new A1165 at_234 (pc' := 237) rfl (wd hw 31 rfl) (wd hw 6 rfl) (wd hw 5 rfl) (by decide) (by decide) fun a1167 T1167 h1167 g1167 A1167 E1167 X1167 D1167 => ?_
          have z1167 : n0 ≤ a1167 := Nat.le_trans A1165.sz (Nat.le_of_eq g1167.symm)
          have y1167 : h0.size ≤ a1167 := Nat.le_trans Q1166.1 (Nat.le_of_eq g1167.symm)
          have Q1168 : Keep h0 h1167 [] := Q1166.ext E1167
          have s1167 := Safe.ext E1167 (A1165.ch rfl).1 (Safe.new (Nat.le_of_eq g1167.symm))
          refine f_dup A1167 at_237 (pc' := 238) rfl rfl ?_
          refine f_aload A1167 at_238 (pc' := 240) rfl rfl rfl ?_
          have c1169 := (V1165.ext E1167)
          refine f_callI A1167 (a := a1167) at_240 (pc' := 243) rfl rfl (wd hw 61 rfl) (wd hw 62 rfl) (wd hw 63 rfl) (by decide) pd17 [(.ref b1163)] [(.ref a1167)] rfl rfl rfl 1 (Nat.le_of_eq rfl) (CN.pay (W := 1) A1167 (m_new1W l Z a0 hw a1167 b1163 kA1163 4 [(108 : Int32), (111 : Int32), (103 : Int32), c3] (.int 0) 3 Oa Oh Ol zc O2 P5 h1167 n0 A1167.old X1167 (show Fld Z h1167 a1167 "java/lang/String" "value" "[B" .null from D1167 (Or.inr (wd hw 8 rfl)) (ty := (.array .byte)) (by decide)) (show Fld Z h1167 a1167 "java/lang/String" "coder" "B" (.int (0 : Int32)) from D1167 (Or.inr (wd hw 9 rfl)) (ty := .byte) (by decide)) z1167 c1169 rfl (by decide) (by decide) (hpreK (L := [(108 : Int32), (111 : Int32), (103 : Int32)]) (by decide)) q8 (lc (by decide) (lc (by decide) (lc (by decide) (lc (c16 rc3) ln))))) (wd hw 63 rfl) (wd hw 5 rfl) (by decide) (by decide)) (kc := 2) (ks := 108) (by decide) (by decide) (allS z1167 all0) (fun _ => (sfS s1167 sf0)) fun v1170 T1170 h1170 L1170 A1170 K1170 q1170 => ?_
          have Q1171 : Keep h0 h1170 [] := Q1168.trans K1170 (allS (Or.inr y1167) all0)
          obtain ⟨rfl, t1170, tz1170, tg1170, tn1170, G1170⟩ := q1170
          show Wp pG e below _ T1170 (mkF m 243 _ [(.ref a1167)])
          refine f_callS A1170 at_243 (pc' := 246) rfl (wd hw 81 rfl) (wd hw 82 rfl) (wd hw 16 rfl) (wd hw 83 rfl) (by decide) pd18 [(.ref a1167)] [] rfl rfl rfl 0 (Nat.le_of_eq rfl) (CN.pay (W := 0) A1170 (m_fk l Z a0 hw aA aD aM aL vv a1167 t1170 [(108 : Int32), (111 : Int32), (103 : Int32), c3] .null zc O2 P5 h1170 n0 A1170.old hV G1170 app_no3) (wd hw 83 rfl) (wd hw 16 rfl) (by decide) (by decide)) (kc := 1) (ks := 4) (by decide) (by decide) all0 (fun _ => sf0) fun v1172 T1172 h1172 L1172 A1172 K1172 q1172 => ?_
          have Q1173 : Keep h0 h1172 [] := Q1171.trans K1172 all0
          obtain rfl := q1172
          show Wp pG e below _ T1172 (mkF m 246 _ [.null])
          refine f_nonN A1172 at_246 (pc' := 249) rfl ?_
          refine f_iconst A1172 at_249 (pc' := 250) rfl 1 rfl ?_
          refine f_goto A1172 at_250 (pc' := 254) (by decide) (by decide) ?_
          exact f_retBW A1172 hEL hlk hret at_254 (by decide) (1 : Int32) (by decide) (by decide) (by decide) Q1173 rfl
        · refine f_new A1165 at_234 (pc' := 237) rfl (wd hw 31 rfl) (wd hw 6 rfl) (wd hw 5 rfl) (by decide) (by decide) fun a1174 T1174 h1174 g1174 A1174 E1174 X1174 D1174 => ?_
          have z1174 : n0 ≤ a1174 := Nat.le_trans A1165.sz (Nat.le_of_eq g1174.symm)
          have y1174 : h0.size ≤ a1174 := Nat.le_trans Q1166.1 (Nat.le_of_eq g1174.symm)
          have Q1175 : Keep h0 h1174 [] := Q1166.ext E1174
          have s1174 := Safe.ext E1174 (A1165.ch rfl).1 (Safe.new (Nat.le_of_eq g1174.symm))
          refine f_dup A1174 at_237 (pc' := 238) rfl rfl ?_
          refine f_aload A1174 at_238 (pc' := 240) rfl rfl rfl ?_
          have c1176 := (V1165.ext E1174)
          refine f_callI A1174 (a := a1174) at_240 (pc' := 243) rfl rfl (wd hw 61 rfl) (wd hw 62 rfl) (wd hw 63 rfl) (by decide) pd17 [(.ref b1163)] [(.ref a1174)] rfl rfl rfl 1 (Nat.le_of_eq rfl) (payNew (W := 1) A1174 hw (wd hw 6 rfl) (cs := [(108 : Int32), (111 : Int32), (103 : Int32), c3]) 4 z1174 X1174 (show Fld Z h1174 a1174 "java/lang/String" "value" "[B" .null from D1174 (Or.inr (wd hw 8 rfl)) (ty := (.array .byte)) (by decide)) (show Fld Z h1174 a1174 "java/lang/String" "coder" "B" (.int (0 : Int32)) from D1174 (Or.inr (wd hw 9 rfl)) (ty := .byte) (by decide)) c1176 O2 P5 rfl rfl (by decide) (by decide) (lc (by decide) (lc (by decide) (lc (by decide) (lc (c8 rc3 q8) ln)))) (by decide) (by decide)) (kc := 1) (ks := 4) (by decide) (by decide) (allS z1174 all0) (fun _ => (sfS s1174 sf0)) fun v1177 T1177 h1177 L1177 A1177 K1177 q1177 => ?_
          have Q1178 : Keep h0 h1177 [] := Q1175.trans K1177 (allS (Or.inr y1174) all0)
          obtain ⟨rfl, t1177, tz1177, tg1177, tn1177, G1177⟩ := q1177
          show Wp pG e below _ T1177 (mkF m 243 _ [(.ref a1174)])
          refine f_callS A1177 at_243 (pc' := 246) rfl (wd hw 81 rfl) (wd hw 82 rfl) (wd hw 16 rfl) (wd hw 83 rfl) (by decide) pd18 [(.ref a1174)] [] rfl rfl rfl 0 (Nat.le_of_eq rfl) (CN.pay (W := 0) A1177 (m_fk l Z a0 hw aA aD aM aL vv a1174 t1177 [(108 : Int32), (111 : Int32), (103 : Int32), c3] .null zc O2 P5 h1177 n0 A1177.old hV G1177 app_no3) (wd hw 83 rfl) (wd hw 16 rfl) (by decide) (by decide)) (kc := 1) (ks := 4) (by decide) (by decide) all0 (fun _ => sf0) fun v1179 T1179 h1179 L1179 A1179 K1179 q1179 => ?_
          have Q1180 : Keep h0 h1179 [] := Q1178.trans K1179 all0
          obtain rfl := q1179
          show Wp pG e below _ T1179 (mkF m 246 _ [.null])
          refine f_nonN A1179 at_246 (pc' := 249) rfl ?_
          refine f_iconst A1179 at_249 (pc' := 250) rfl 1 rfl ?_
          refine f_goto A1179 at_250 (pc' := 254) (by decide) (by decide) ?_
          exact f_retBW A1179 hEL hlk hret at_254 (by decide) (1 : Int32) (by decide) (by decide) (by decide) Q1180 rfl
section OwnStart
variable {s : State} {args : Array Value}
theorem eqI {u : Term} {k : Int32} (he : (Jvm.Cond.eq u (.int k)).value args s none s [] = some true) : u.eval args s none [] s = some (.int k) := by
  obtain ⟨a, b, e1, e2, -, k2⟩ := cmp_v (Or.inl he)
  cases (Term.int_eval k).symm.trans e2
  obtain ⟨z, rfl⟩ := k2
  rw [e1, gotT (Cond.eq_ints e1 (Term.int_eval k)) he]
theorem eqR {u w : Term} {y : Addr} (hw : w.eval args s none [] s = some (.ref y)) (he : (Jvm.Cond.eq u w).value args s none s [] = some true) : u.eval args s none [] s = some (.ref y) := by
  obtain ⟨a, b, e1, e2, k1, k2⟩ := cmp_v (Or.inl he)
  cases hw.symm.trans e2
  rw [e1, gotT (eq_R e1 hw k2.2 rfl) he]
theorem arvAt {t : Term} {ty : FieldType} {n : Int32} {x : Addr} {d : Value} (ev : t.eval args s none [] s = some (.ref x)) (ha : (Jvm.Cond.arrayOf t ty).value args s none s [] = some true) (hl : (Jvm.Cond.eq (.length t) (.int n)).value args s none s [] = some true) (vs : List Value) (hn : n.toNatClampNeg = vs.length) (h0 : ¬ n < 0) (H : ∀ cl : Cell, s.heap[x]? = some cl → HasL cl 0 vs) (hf : ∀ v ∈ vs, fits ty v = true) : ∃ k, Arv s s.heap x k ty n vs d := by
  obtain ⟨c, A⟩ := Arr.start ev ha
  have hs : c.slots.size < 2 ^ 31 ∧ c.slots.size.toInt32 = n := by
    obtain ⟨a', cell, e1, e2, e3, e4⟩ := Jvm.Free.SB.Term.length_small (eqI hl)
    cases ev.symm.trans e1
    cases (Arr.fin (Vm.Alike.refl _) A).symm.trans e2
    exact ⟨e4, (Value.int.inj e3).symm⟩
  have S : c.slots.size = n.toNatClampNeg := by rw [← hs.2]; simp only [Int32.toNatClampNeg, len_toInt hs.1]; rfl
  have H' : Has c vs d := fun j hj => by have := HasL.at (dv := d) vs 0 (H c A.1) j (by rw [← hn, ← S]; exact hj); rwa [Nat.zero_add] at this
  exact ⟨_, c, A, rfl, S, h0, H', fun i hi => hf _ (by rw [List.getD_eq_getElem?_getD, List.getElem?_eq_getElem (by omega)]; exact List.getElem_mem _)⟩
theorem elI {t : Term} {j k : Int32} {x : Addr} {cl : Cell} (ev : t.eval args s none [] s = some (.ref x)) (hc : s.heap[x]? = some cl) (he : (Jvm.Cond.eq (.elem t (.int j)) (.int k)).value args s none s [] = some true) : cl.slots[j.toNatClampNeg]? = some (.int k) := (elem_in (eqI he) ev (Term.int_eval j) hc).2
theorem elR {t w : Term} {j : Int32} {x y : Addr} {cl : Cell} (ev : t.eval args s none [] s = some (.ref x)) (hw : w.eval args s none [] s = some (.ref y)) (hc : s.heap[x]? = some cl) (he : (Jvm.Cond.eq (.elem t (.int j)) w).value args s none s [] = some true) : cl.slots[j.toNatClampNeg]? = some (.ref y) := (elem_in (eqR hw he) ev (Term.int_eval j) hc).2
end OwnStart
set_option maxRecDepth 65536 in
set_option maxHeartbeats 40000000 in
theorem comes_1 {Post : Tables → Env → Array Value → State → Outcome → State → Prop} (hpost : ∀ tb e args s v u, (limb_1_1.after args s (.returned v) u = true ∧ limb_1_2.after args s (.returned v) u = true ∧ True) → ReturnedEndW s (.returned v) u (Jvm.fieldLocs frame_1_writes args s ++ Jvm.arrayLocs frame_1_arrays args s ++ Jvm.staticLocs frame_1_statics s) 32 5312 → Post tb e args s (.returned v) u) :
    ArmFor flags0 classFile x code maxLocals ret World_1 tables_1 room_1 Calls_1 rest_1 Pre_1 Post := by
  intro l hfl _ _ p e ha hc hk s m args below hf hA hF happ hP
  obtain ⟨hcalls, hrest, hpre⟩ := hP
  obtain ⟨-, -, -, hnamed, -, -, -, hat⟩ := (Spec.applies_iff hf).mp happ
  obtain ⟨hg, hn⟩ := and_e (Cond.before_iff.mp (show (Jvm.Cond.and given_1 narrow_1).before args s = true from hpre))
  obtain ⟨gc, g0⟩ := and_e hg
  obtain ⟨b0, g1⟩ := and_e g0
  obtain ⟨b1, g2⟩ := and_e g1
  obtain ⟨b2, g3⟩ := and_e g2
  obtain ⟨w0, w1, w2, w3, rfl⟩ : ∃ w0 w1 w2 w3 : Value, args = #[w0, w1, w2, w3] := by
    have hs : args.size = 4 := by simpa [Cond.value, given_1] using gc
    obtain ⟨L⟩ := args
    match L, hs with
    | [w0, w1, w2, w3], _ => exact ⟨w0, w1, w2, w3, rfl⟩
  have hw := fun d (hd : d ∈ tables_1) => atoms_spec (ws := Jvm.Cond.code x code maxLocals ret :: tables_1) hat d (List.mem_cons_of_mem _ hd)
  obtain ⟨hsets, hown0⟩ := atoms_of _ (rest_1_c_eq ▸ (show rest_1_c.before _ s = true from hrest))
  obtain ⟨i0, ei0⟩ := is_v b0
  obtain rfl : w0 = (.int i0) := Option.some.inj ei0
  obtain ⟨i1, ei1⟩ := is_v b1
  obtain rfl : w1 = (.int i1) := Option.some.inj ei1
  obtain ⟨i2, ei2⟩ := is_v b2
  obtain rfl : w2 = (.int i2) := Option.some.inj ei2
  obtain ⟨i3, ei3⟩ := isL_v g3
  obtain rfl : w3 = (.long i3) := Option.some.inj ei3
  obtain ⟨zc, ezc⟩ := is_v (Cond.before_iff.mp (hsets _ (List.mem_of_getElem? (i := 1) rfl)))
  have O2 : Sta s s.heap "java/lang/String" "COMPACT_STRINGS" "Z" (.int zc) := Sta.start ezc (Or.inl (hsets _ (List.mem_of_getElem? (i := 0) rfl)))
  have P5 : ¬ zc = 0 := gotF (Cond.eq_ints ezc (Term.int_eval (0))) (not_v (Cond.before_iff.mp (hsets _ (List.mem_of_getElem? (i := 2) rfl))))
  obtain ⟨fm, efm, rG3⟩ := isR_v (Cond.before_iff.mp (hsets _ (List.mem_of_getElem? (i := 8) rfl)))
  have O4 : Sta s s.heap "jdk/internal/util/Preconditions" "SIOOBE_FORMATTER" "Ljava/util/function/BiFunction;" fm := Sta.start efm (Or.inl (hsets _ (List.mem_of_getElem? (i := 7) rfl)))
  have hEL : EW s #[.int i0, .int i1, .int i2, .long i3] ELs := (EW.cons (wd hw 4 rfl) (by decide) (EW.cons (wd hw 129 rfl) (by decide) (EW.cons (wd hw 114 rfl) (by decide) (EW.cons (wd hw 116 rfl) (by decide) (EW.cons (wd hw 150 rfl) (by decide) EW.nil)))))
  have hCH : CHv s ELs s.vm s.heap := CHv.start hEL (fun p hp => hcalls.1 p ((by decide : ∀ p ∈ ELs, p ∈ consts_1) p hp)) (a0 := #[.int i0, .int i1, .int i2, .long i3]) (hsets _ (List.mem_of_getElem? (i := 2) rfl)) (wd hw 7 rfl) (wd hw 6 rfl)
  obtain ⟨n0, r0⟩ := and_e (show (Jvm.Cond.and _ _).value _ s none s [] = some true from hn)
  obtain ⟨n1, r1⟩ := and_e r0
  obtain ⟨n2, r2⟩ := and_e r1
  obtain ⟨n3, r3⟩ := and_e r2
  obtain ⟨n4, r4⟩ := and_e r3
  obtain ⟨n5, r5⟩ := and_e r4
  obtain ⟨n6, r6⟩ := and_e r5
  obtain ⟨n7, r7⟩ := and_e r6
  obtain ⟨n8, r8⟩ := and_e r7
  obtain ⟨n9, r9⟩ := and_e r8
  obtain ⟨n10, r10⟩ := and_e r9
  obtain ⟨n11, r11⟩ := and_e r10
  obtain ⟨n12, r12⟩ := and_e r11
  obtain ⟨n13, r13⟩ := and_e r12
  obtain ⟨n14, r14⟩ := and_e r13
  obtain ⟨n15, r15⟩ := and_e r14
  obtain ⟨n16, r16⟩ := and_e r15
  obtain ⟨n17, r17⟩ := and_e r16
  obtain ⟨n18, r18⟩ := and_e r17
  obtain ⟨n19, r19⟩ := and_e r18
  obtain ⟨n20, r20⟩ := and_e r19
  obtain ⟨n21, r21⟩ := and_e r20
  obtain ⟨n22, r22⟩ := and_e r21
  obtain ⟨n23, r23⟩ := and_e r22
  obtain ⟨n24, r24⟩ := and_e r23
  obtain ⟨n25, r25⟩ := and_e r24
  obtain ⟨n26, r26⟩ := and_e r25
  obtain ⟨n27, r27⟩ := and_e r26
  obtain ⟨n28, r28⟩ := and_e r27
  obtain ⟨n29, r29⟩ := and_e r28
  obtain ⟨n30, r30⟩ := and_e r29
  obtain ⟨n31, r31⟩ := and_e r30
  obtain ⟨n32, r32⟩ := and_e r31
  obtain ⟨n33, r33⟩ := and_e r32
  obtain ⟨n34, r34⟩ := and_e r33
  obtain ⟨n35, r35⟩ := and_e r34
  obtain ⟨n36, r36⟩ := and_e r35
  obtain ⟨n37, r37⟩ := and_e r36
  obtain ⟨n38, r38⟩ := and_e r37
  obtain ⟨n39, r39⟩ := and_e r38
  obtain ⟨n40, r40⟩ := and_e r39
  obtain ⟨n41, r41⟩ := and_e r40
  have n42 := r41
  obtain ⟨aA, eaA⟩ := exa_v n0
  have S0 : Sta s s.heap "com/example/confinement/confinement/policy/Verdict" "ALLOW" "Lcom/example/confinement/confinement/policy/Verdict;" (.ref aA) := Sta.start eaA (Or.inr ⟨(wd hw 16 rfl), (wd hw 17 rfl)⟩)
  have E0 := Exa.start eaA n0
  obtain ⟨kA, ekA⟩ := exa_v n11
  have F0 : Fld s s.heap aA "com/example/confinement/confinement/policy/Verdict" "keyword" "Ljava/lang/String;" (.ref kA) := Fld.start ((fld_at eaA).symm.trans ekA)
  have X0 := Exa.start ekA n11
  have C0 : Fld s s.heap kA "java/lang/String" "coder" "B" (.int 0) := Fld.start ((fld_at ekA).symm.trans (eqI n12))
  obtain ⟨tA, etA⟩ := arr_v n13
  have V0 : Fld s s.heap kA "java/lang/String" "value" "[B" (.ref tA) := Fld.start ((fld_at ekA).symm.trans etA)
  obtain ⟨kb0, B0⟩ := arvAt (d := .int 0) etA n13 n14 [.int 97, .int 108, .int 108, .int 111, .int 119] rfl (by decide) (fun cl hc => ⟨elI etA hc n38, elI etA hc n39, elI etA hc n40, elI etA hc n41, elI etA hc n42, trivial⟩) (by decide)
  have G0 : Str s s.heap kA tA [(97 : Int32), (108 : Int32), (108 : Int32), (111 : Int32), (119 : Int32)] := strLit X0 C0 V0 B0 (Or.inl ⟨rfl, rfl, rfl, by decide⟩) (by decide) (by decide)
  obtain ⟨aD, eaD⟩ := exa_v n5
  have S1 : Sta s s.heap "com/example/confinement/confinement/policy/Verdict" "DENY" "Lcom/example/confinement/confinement/policy/Verdict;" (.ref aD) := Sta.start eaD (Or.inr ⟨(wd hw 16 rfl), (wd hw 96 rfl)⟩)
  have E1 := Exa.start eaD n5
  obtain ⟨kD, ekD⟩ := exa_v n15
  have F1 : Fld s s.heap aD "com/example/confinement/confinement/policy/Verdict" "keyword" "Ljava/lang/String;" (.ref kD) := Fld.start ((fld_at eaD).symm.trans ekD)
  have X1 := Exa.start ekD n15
  have C1 : Fld s s.heap kD "java/lang/String" "coder" "B" (.int 0) := Fld.start ((fld_at ekD).symm.trans (eqI n16))
  obtain ⟨tD, etD⟩ := arr_v n17
  have V1 : Fld s s.heap kD "java/lang/String" "value" "[B" (.ref tD) := Fld.start ((fld_at ekD).symm.trans etD)
  obtain ⟨kb1, B1⟩ := arvAt (d := .int 0) etD n17 n18 [.int 100, .int 101, .int 110, .int 121] rfl (by decide) (fun cl hc => ⟨elI etD hc n27, elI etD hc n35, elI etD hc n36, elI etD hc n37, trivial⟩) (by decide)
  have G1 : Str s s.heap kD tD [(100 : Int32), (101 : Int32), (110 : Int32), (121 : Int32)] := strLit X1 C1 V1 B1 (Or.inl ⟨rfl, rfl, rfl, by decide⟩) (by decide) (by decide)
  obtain ⟨aM, eaM⟩ := exa_v n7
  have S2 : Sta s s.heap "com/example/confinement/confinement/policy/Verdict" "MOCK" "Lcom/example/confinement/confinement/policy/Verdict;" (.ref aM) := Sta.start eaM (Or.inr ⟨(wd hw 16 rfl), (wd hw 97 rfl)⟩)
  have E2 := Exa.start eaM n7
  obtain ⟨kM, ekM⟩ := exa_v n19
  have F2 : Fld s s.heap aM "com/example/confinement/confinement/policy/Verdict" "keyword" "Ljava/lang/String;" (.ref kM) := Fld.start ((fld_at eaM).symm.trans ekM)
  have X2 := Exa.start ekM n19
  have C2 : Fld s s.heap kM "java/lang/String" "coder" "B" (.int 0) := Fld.start ((fld_at ekM).symm.trans (eqI n20))
  obtain ⟨tM, etM⟩ := arr_v n21
  have V2 : Fld s s.heap kM "java/lang/String" "value" "[B" (.ref tM) := Fld.start ((fld_at ekM).symm.trans etM)
  obtain ⟨kb2, B2⟩ := arvAt (d := .int 0) etM n21 n22 [.int 109, .int 111, .int 99, .int 107] rfl (by decide) (fun cl hc => ⟨elI etM hc n28, elI etM hc n29, elI etM hc n30, elI etM hc n31, trivial⟩) (by decide)
  have G2 : Str s s.heap kM tM [(109 : Int32), (111 : Int32), (99 : Int32), (107 : Int32)] := strLit X2 C2 V2 B2 (Or.inl ⟨rfl, rfl, rfl, by decide⟩) (by decide) (by decide)
  obtain ⟨aL, eaL⟩ := exa_v n9
  have S3 : Sta s s.heap "com/example/confinement/confinement/policy/Verdict" "LOG" "Lcom/example/confinement/confinement/policy/Verdict;" (.ref aL) := Sta.start eaL (Or.inr ⟨(wd hw 16 rfl), (wd hw 98 rfl)⟩)
  have E3 := Exa.start eaL n9
  obtain ⟨kL, ekL⟩ := exa_v n23
  have F3 : Fld s s.heap aL "com/example/confinement/confinement/policy/Verdict" "keyword" "Ljava/lang/String;" (.ref kL) := Fld.start ((fld_at eaL).symm.trans ekL)
  have X3 := Exa.start ekL n23
  have C3 : Fld s s.heap kL "java/lang/String" "coder" "B" (.int 0) := Fld.start ((fld_at ekL).symm.trans (eqI n24))
  obtain ⟨tL, etL⟩ := arr_v n25
  have V3 : Fld s s.heap kL "java/lang/String" "value" "[B" (.ref tL) := Fld.start ((fld_at ekL).symm.trans etL)
  obtain ⟨kb3, B3⟩ := arvAt (d := .int 0) etL n25 n26 [.int 108, .int 111, .int 103] rfl (by decide) (fun cl hc => ⟨elI etL hc n32, elI etL hc n33, elI etL hc n34, trivial⟩) (by decide)
  have G3 : Str s s.heap kL tL [(108 : Int32), (111 : Int32), (103 : Int32)] := strLit X3 C3 V3 B3 (Or.inl ⟨rfl, rfl, rfl, by decide⟩) (by decide) (by decide)
  obtain ⟨vv, evv⟩ := arr_v n1
  have SV : Sta s s.heap "com/example/confinement/confinement/policy/Verdict" "$VALUES" "[Lcom/example/confinement/confinement/policy/Verdict;" (.ref vv) := Sta.start evv (Or.inl (wd hw 99 rfl))
  have EV := Exa.start evv n2
  obtain ⟨kV, VV⟩ := arvAt (d := .null) evv n1 n3 [.ref aA, .ref aD, .ref aM, .ref aL] rfl (by decide) (fun cl hc => ⟨elR evv eaA hc n4, elR evv eaD hc n6, elR evv eaM hc n8, elR evv eaL hc n10, trivial⟩) (fun v hv => by simp only [List.mem_cons, List.not_mem_nil, or_false] at hv; rcases hv with rfl | rfl | rfl | rfl <;> rfl)
  have hV : Verd s aA aD aM aL vv := ⟨kA, kD, kM, kL, tA, tD, tM, tL, kV, S0, E0, F0, G0, S1, E1, F1, G1, S2, E2, F2, G2, S3, E3, F3, G3, SV, EV, VV⟩
  have Oa : Sta s s.heap "java/lang/StringUTF16" "$assertionsDisabled" "Z" (.int 1) := Sta.start (eqI (Cond.before_iff.mp (hsets _ (List.mem_of_getElem? (i := 12) rfl)))) (Or.inl (hsets _ (List.mem_of_getElem? (i := 11) rfl)))
  have Oh : Sta s s.heap "java/lang/StringUTF16" "HI_BYTE_SHIFT" "I" (.int 0) := Sta.start (eqI (Cond.before_iff.mp (hsets _ (List.mem_of_getElem? (i := 15) rfl)))) (Or.inl (hsets _ (List.mem_of_getElem? (i := 14) rfl)))
  have Ol : Sta s s.heap "java/lang/StringUTF16" "LO_BYTE_SHIFT" "I" (.int 8) := Sta.start (eqI (Cond.before_iff.mp (hsets _ (List.mem_of_getElem? (i := 18) rfl)))) (Or.inl (hsets _ (List.mem_of_getElem? (i := 17) rfl)))
  obtain ⟨n, o, h1, h2, h3, v, L, rfl, ⟨N, -, hv⟩, hC, hq⟩ := m_law l s _ hw tables_1 i0 i1 i2 i3 aA aD aM aL vv Oa Oh Ol zc O2 P5 fm O4 rG3 s.heap s.heap.size (Old.start s) hEL hV p e ha hc hk s m _ below hf ((Spec.applies_iff_loose hf).mp happ).1 ⟨rfl, State.Warmed39.refl s, rfl, hCH, fun _ q => nomatch q⟩ trivial
  obtain rfl := hv
  refine ⟨n, _, h1, h2, h3, hpost _ _ _ _ _ _ ⟨Cond.after_iff.mpr rfl, Cond.after_iff.mpr (eq_i res_at (Term.int_eval (1)) rfl), trivial⟩ ⟨hq.1, hq.2.1, hq.2.2.1, (hq.2.2.2.sift fun y hy => Or.inr (N y hy)).mono (by decide) (by decide)⟩⟩
theorem main_1_1 : Claimed_1_1 := comes_1 fun _ _ _ _ _ _ h hF => ⟨h.1, hF⟩
theorem main_1_2 : Claimed_1_2 := comes_1 fun _ _ _ _ _ _ h hF => ⟨h.2.1, hF⟩
end Jvm.Pilot.@@N@@
namespace Jvm.Pilot.@@N@@
open Jvm Jvm.ClassFile Sem Op Lib Jvm.Free Jvm.Stand Jvm.Pilot.@@N@@.Jvm.D
/-! MADE BY PROGRAM (witnessworld.py) out of the Statement's table words and the real class files: 22 classes; the members and pool entries that the words name. The judged class is class 1, her method 8. -/
namespace start1
open Jvm.ClassFile
def u (s : String) : CpInfo := .utf8 (stringToUtf16 s)
/-- a pool by its gaps: so many unusable entries, then the entry; so many at the end -/
def gap : Nat → List CpInfo → List CpInfo
  | 0, r => r
  | n + 1, r => .unusable :: gap n r
def poolList (es : List (Nat × CpInfo)) (last : Nat) : List CpInfo := es.foldr (fun e r => gap e.1 (e.2 :: r)) (gap last [])
def pool (es : List (Nat × CpInfo)) (last : Nat) : Array CpInfo := ⟨poolList es last⟩
def fileOf (pool : Array CpInfo) (this : Nat) (attrs : Array Attribute := #[]) (ms : Array MethodInfo := #[]) (fl : Nat := 33) (sup : Nat := 0) (ifs : Array Nat := #[]) (fds : Array FieldInfo := #[]) : ClassFile where
  minorVersion := 0
  majorVersion := 65
  constantPool := pool
  accessFlags := fl
  thisClass := this
  superClass := sup
  interfaces := ifs
  fields := fds
  methods := ms
  attributes := attrs
def plain (name : String) (sup : Option ClassId) : Class where
  name := name
  kind := .ordinary
  loader := none
  accessFlags := 33
  super := sup
  interfaces := #[]
  cf := none
  fields := #[]
  methods := #[]
  instanceTypes := #[]
  staticTypes := #[]
  resolved := #[]
  callSites := []
  init := .initialized
  statics := none
  mirror := none

def pool0 : Array CpInfo := pool [(5, u "<init>"), (0, u "()V"), (1, .class_ 10), (1, u "java/lang/Object"), (85, u "clone"), (0, u "()Ljava/lang/Object;")] 26

def k0c0 : Code := { maxStack := 0, maxLocals := 1, code := object_method_1_code, exceptionTable := #[], attributes := #[] }
def k0m0 : Method := { name := "<init>", desc := "()V", sig := { parameters := [], returnType := none }, accessFlags := 1, code := some k0c0 }
def k0m1 : Method := { name := "clone", desc := "()Ljava/lang/Object;", sig := { parameters := [], returnType := some (.object "java/lang/Object") }, accessFlags := 260, code := none }
/-- java/lang/Object -/
def k0 : Class := { plain "java/lang/Object" none with
  accessFlags := 33
  interfaces := #[]
  cf := some (fileOf pool0 8 #[] #[{ accessFlags := 1, nameIndex := 5, descriptorIndex := 6, attributes := #[] }, { accessFlags := 260, nameIndex := 96, descriptorIndex := 97, attributes := #[] }] 33 0 #[] #[])
  fields := #[]
  methods := #[k0m0, k0m1]
  instanceTypes := #[]
  staticTypes := #[]
  resolved := Array.replicate 124 none
  statics := none }

def pool1 : Array CpInfo := pool [(2, .class_ 4), (1, u "java/lang/Object"), (0, u "<init>"), (0, u "()V"), (0, .string 8), (0, u "allow"), (0, .string 10), (0, u "deny"), (0, .string 12), (0, u "mock"), (0, .string 14), (0, u "log"), (0, .fieldref 16 17), (0, .class_ 18), (0, .nameAndType 19 20), (0, u "com/example/confinement/confinement/policy/Verdict"), (0, u "ALLOW"), (0, u "Lcom/example/confinement/confinement/policy/Verdict;"), (0, .fieldref 16 22), (0, .nameAndType 23 20), (0, u "DENY"), (0, .fieldref 16 25), (0, .nameAndType 26 20), (0, u "MOCK"), (0, .fieldref 16 28), (0, .nameAndType 29 20), (0, u "LOG"), (0, .methodref 31 32), (0, .class_ 33), (0, .nameAndType 34 35), (0, u "com/example/confinement/confinement/policy/VerdictForKeywordPinLaw"), (0, u "alloc"), (0, u "(I)[C"), (0, .methodref 37 38), (0, .class_ 39), (0, .nameAndType 40 41), (0, u "java/lang/String"), (0, u "length"), (0, u "()I"), (0, .methodref 37 43), (0, .nameAndType 44 45), (0, u "charAt"), (0, u "(I)C"), (0, .long 255), (1, .methodref 31 49), (0, .nameAndType 50 51), (0, u "drawn"), (0, u "(JI)C"), (0, .methodref 37 53), (0, .nameAndType 54 55), (0, u "equals"), (0, u "(Ljava/lang/Object;)Z"), (0, .methodref 31 57), (0, .nameAndType 58 59), (0, u "kw"), (0, u "(I)Ljava/lang/String;"), (0, .methodref 31 61), (0, .nameAndType 62 63), (0, u "ek"), (0, u "(I)Lcom/example/confinement/confinement/policy/Verdict;"), (0, .methodref 31 65), (0, .nameAndType 66 67), (0, u "copyKw"), (0, u "(Ljava/lang/String;I)[C"), (0, .methodref 37 69), (0, .nameAndType 5 70), (0, u "([C)V"), (0, .methodref 16 72), (0, .nameAndType 73 74), (0, u "forKeyword"), (0, u "(Ljava/lang/String;)Lcom/example/confinement/confinement/policy/Verdict;"), (0, .integer 2147483647), (0, .methodref 31 77), (0, .nameAndType 78 79), (0, u "drawnChars"), (0, u "(JI)[C"), (0, .methodref 31 81), (0, .nameAndType 82 74), (0, u "ref"), (5, u "law"), (0, u "(IIIJ)Z")] 2

def k1m0 : Method := { name := "<init>", desc := "()V", sig := { parameters := [], returnType := none }, accessFlags := 1, code := none }
def k1c1 : Code := { maxStack := 2, maxLocals := 1, code := method_2_code, exceptionTable := #[], attributes := #[] }
def k1m1 : Method := { name := "kw", desc := "(I)Ljava/lang/String;", sig := { parameters := [.int], returnType := some (.object "java/lang/String") }, accessFlags := 10, code := some k1c1 }
def k1c2 : Code := { maxStack := 2, maxLocals := 1, code := method_3_code, exceptionTable := #[], attributes := #[] }
def k1m2 : Method := { name := "ek", desc := "(I)Lcom/example/confinement/confinement/policy/Verdict;", sig := { parameters := [.int], returnType := some (.object "com/example/confinement/confinement/policy/Verdict") }, accessFlags := 10, code := some k1c2 }
def k1c3 : Code := { maxStack := 2, maxLocals := 1, code := method_4_code, exceptionTable := #[], attributes := #[] }
def k1m3 : Method := { name := "alloc", desc := "(I)[C", sig := { parameters := [.int], returnType := some (.array .char) }, accessFlags := 10, code := some k1c3 }
def k1c4 : Code := { maxStack := 4, maxLocals := 4, code := method_5_code, exceptionTable := #[], attributes := #[] }
def k1m4 : Method := { name := "copyKw", desc := "(Ljava/lang/String;I)[C", sig := { parameters := [(.object "java/lang/String"), .int], returnType := some (.array .char) }, accessFlags := 10, code := some k1c4 }
def k1c5 : Code := { maxStack := 4, maxLocals := 3, code := method_6_code, exceptionTable := #[], attributes := #[] }
def k1m5 : Method := { name := "drawn", desc := "(JI)C", sig := { parameters := [.long, .int], returnType := some .char }, accessFlags := 10, code := some k1c5 }
def k1c6 : Code := { maxStack := 5, maxLocals := 4, code := method_7_code, exceptionTable := #[], attributes := #[] }
def k1m6 : Method := { name := "drawnChars", desc := "(JI)[C", sig := { parameters := [.long, .int], returnType := some (.array .char) }, accessFlags := 10, code := some k1c6 }
def k1c7 : Code := { maxStack := 2, maxLocals := 1, code := method_8_code, exceptionTable := #[], attributes := #[] }
def k1m7 : Method := { name := "ref", desc := "(Ljava/lang/String;)Lcom/example/confinement/confinement/policy/Verdict;", sig := { parameters := [(.object "java/lang/String")], returnType := some (.object "com/example/confinement/confinement/policy/Verdict") }, accessFlags := 10, code := some k1c7 }
def k1c8 : Code := { maxStack := 6, maxLocals := 15, code := code, exceptionTable := #[], attributes := #[] }
def k1m8 : Method := { name := "law", desc := "(IIIJ)Z", sig := { parameters := [.int, .int, .int, .long], returnType := some .boolean }, accessFlags := 9, code := some k1c8 }
/-- com/example/confinement/confinement/policy/VerdictForKeywordPinLaw -/
def k1 : Class := { plain "com/example/confinement/confinement/policy/VerdictForKeywordPinLaw" (some 0) with
  accessFlags := 49
  interfaces := #[]
  cf := some (fileOf pool1 31 #[] #[{ accessFlags := 1, nameIndex := 5, descriptorIndex := 6, attributes := #[] }, { accessFlags := 10, nameIndex := 58, descriptorIndex := 59, attributes := #[] }, { accessFlags := 10, nameIndex := 62, descriptorIndex := 63, attributes := #[] }, { accessFlags := 10, nameIndex := 34, descriptorIndex := 35, attributes := #[] }, { accessFlags := 10, nameIndex := 66, descriptorIndex := 67, attributes := #[] }, { accessFlags := 10, nameIndex := 50, descriptorIndex := 51, attributes := #[] }, { accessFlags := 10, nameIndex := 78, descriptorIndex := 79, attributes := #[] }, { accessFlags := 10, nameIndex := 82, descriptorIndex := 74, attributes := #[] }, { accessFlags := 9, nameIndex := 88, descriptorIndex := 89, attributes := #[] }] 49 2 #[] #[])
  fields := #[]
  methods := #[k1m0, k1m1, k1m2, k1m3, k1m4, k1m5, k1m6, k1m7, k1m8]
  instanceTypes := #[]
  staticTypes := #[]
  resolved := Array.replicate 92 none
  statics := none }

def pool2 : Array CpInfo := pool [(1, .class_ 2), (0, u "java/io/Serializable"), (0, .class_ 4), (0, u "java/lang/Object")] 2

/-- java/io/Serializable -/
def k2 : Class := { plain "java/io/Serializable" (some 0) with
  accessFlags := 1537
  interfaces := #[]
  cf := some (fileOf pool2 1 #[] #[] 1537 3 #[] #[])
  fields := #[]
  methods := #[]
  instanceTypes := #[]
  staticTypes := #[]
  resolved := Array.replicate 7 none
  statics := none }

def pool3 : Array CpInfo := pool [(1, .class_ 2), (0, u "java/lang/Comparable"), (0, .class_ 4), (0, u "java/lang/Object")] 7

/-- java/lang/Comparable -/
def k3 : Class := { plain "java/lang/Comparable" (some 0) with
  accessFlags := 1537
  interfaces := #[]
  cf := some (fileOf pool3 1 #[] #[] 1537 3 #[] #[])
  fields := #[]
  methods := #[]
  instanceTypes := #[]
  staticTypes := #[]
  resolved := Array.replicate 12 none
  statics := none }

def pool4 : Array CpInfo := pool [(2, .class_ 4), (1, u "java/lang/CharSequence"), (42, .class_ 48), (0, u "java/lang/CharSequence$1CodePointIterator"), (10, .class_ 60), (0, u "java/lang/CharSequence$1CharIterator"), (5, .class_ 67), (0, u "java/lang/Object")] 63

/-- java/lang/CharSequence -/
def k4 : Class := { plain "java/lang/CharSequence" (some 0) with
  accessFlags := 1537
  interfaces := #[]
  cf := some (fileOf pool4 2 #[.nestMembers #[47, 59]] #[] 1537 66 #[] #[])
  fields := #[]
  methods := #[]
  instanceTypes := #[]
  staticTypes := #[]
  resolved := Array.replicate 131 none
  statics := none }

def pool5 : Array CpInfo := pool [(1, .class_ 2), (0, u "java/lang/constant/Constable"), (0, .class_ 4), (0, u "java/lang/Object")] 6

/-- java/lang/constant/Constable -/
def k5 : Class := { plain "java/lang/constant/Constable" (some 0) with
  accessFlags := 1537
  interfaces := #[]
  cf := some (fileOf pool5 1 #[] #[] 1537 3 #[] #[])
  fields := #[]
  methods := #[]
  instanceTypes := #[]
  staticTypes := #[]
  resolved := Array.replicate 11 none
  statics := none }

def pool6 : Array CpInfo := pool [(1, .class_ 2), (0, u "java/lang/constant/ConstantDesc"), (0, .class_ 4), (0, u "java/lang/Object")] 32

/-- java/lang/constant/ConstantDesc -/
def k6 : Class := { plain "java/lang/constant/ConstantDesc" (some 0) with
  accessFlags := 1537
  interfaces := #[]
  cf := some (fileOf pool6 1 #[] #[] 1537 3 #[] #[])
  fields := #[]
  methods := #[]
  instanceTypes := #[]
  staticTypes := #[]
  resolved := Array.replicate 37 none
  statics := none }

def pool7 : Array CpInfo := pool [(1, .methodref 2 3), (0, .class_ 4), (0, .nameAndType 5 6), (0, u "java/lang/Object"), (0, u "<init>"), (0, u "()V"), (0, .string 8), (0, u ""), (0, .fieldref 10 11), (0, .class_ 12), (0, .nameAndType 13 14), (0, u "java/lang/String"), (0, u "value"), (0, u "[B"), (0, .fieldref 10 16), (0, .nameAndType 17 18), (0, u "coder"), (0, u "B"), (2, u "hash"), (0, u "I"), (2, u "hashIsZero"), (0, u "Z"), (0, .methodref 10 28), (0, .nameAndType 5 29), (0, u "([CIILjava/lang/Void;)V"), (8, .fieldref 10 39), (0, .nameAndType 40 26), (0, u "COMPACT_STRINGS"), (1, .class_ 44), (1, u "java/lang/StringUTF16"), (0, u "compress"), (1, .methodref 42 48), (0, .nameAndType 49 50), (0, u "coderFromArrayLen"), (0, u "([BI)B"), (56, .class_ 109), (1, u "java/lang/StringLatin1"), (32, u "()Z"), (34, .methodref 42 178), (0, .nameAndType 45 179), (0, u "([CII)[B"), (154, u "()I"), (0, .methodref 10 336), (0, .nameAndType 17 337), (0, u "()B"), (25, u "([BI)C"), (27, u "(II)V"), (35, u "(I)C"), (64, .methodref 10 493), (0, .nameAndType 494 142), (0, u "isLatin1"), (0, .methodref 107 496), (0, .nameAndType 497 363), (0, u "charAt"), (3, u "checkIndex"), (5, u "length"), (33, .methodref 107 542), (0, .nameAndType 543 544), (0, u "equals"), (0, u "([B[B)Z"), (28, u "(Ljava/lang/Object;)Z"), (1, .class_ 576), (0, u "java/lang/CharSequence"), (22, u "CASE_INSENSITIVE_ORDER"), (0, u "Ljava/util/Comparator;"), (409, u "([C)V"), (42, .fieldref 1054 1055), (0, .class_ 1056), (0, .nameAndType 1057 1058), (0, u "jdk/internal/util/Preconditions"), (0, u "SIOOBE_FORMATTER"), (0, u "Ljava/util/function/BiFunction;"), (0, .methodref 1054 1060), (0, .nameAndType 501 1061), (0, u "(IILjava/util/function/BiFunction;)I"), (39, u "serialPersistentFields"), (0, u "[Ljava/io/ObjectStreamField;"), (0, .class_ 1104), (0, u "java/lang/String$CaseInsensitiveComparator"), (1, .class_ 1107), (0, u "java/io/Serializable"), (0, .class_ 1109), (0, u "java/lang/Comparable"), (0, .class_ 1111), (0, u "java/lang/constant/Constable"), (0, .class_ 1113), (0, u "java/lang/constant/ConstantDesc"), (2, u "serialVersionUID"), (0, u "J"), (3, u "REPL"), (0, u "C"), (2, u "LATIN1"), (1, u "UTF16")] 323

def k7m0 : Method := { name := "<init>", desc := "()V", sig := { parameters := [], returnType := none }, accessFlags := 1, code := none }
def k7c1 : Code := { maxStack := 5, maxLocals := 2, code := jdk_42_method_3_code, exceptionTable := #[], attributes := #[] }
def k7m1 : Method := { name := "<init>", desc := "([C)V", sig := { parameters := [(.array .char)], returnType := none }, accessFlags := 1, code := some k7c1 }
def k7c2 : Code := { maxStack := 2, maxLocals := 1, code := jdk_42_method_54_code, exceptionTable := #[], attributes := #[] }
def k7m2 : Method := { name := "length", desc := "()I", sig := { parameters := [], returnType := some .int }, accessFlags := 1, code := some k7c2 }
def k7c3 : Code := { maxStack := 2, maxLocals := 2, code := jdk_42_method_56_code, exceptionTable := #[], attributes := #[] }
def k7m3 : Method := { name := "charAt", desc := "(I)C", sig := { parameters := [.int], returnType := some .char }, accessFlags := 1, code := some k7c3 }
def k7c4 : Code := { maxStack := 2, maxLocals := 3, code := jdk_42_method_66_code, exceptionTable := #[], attributes := #[] }
def k7m4 : Method := { name := "equals", desc := "(Ljava/lang/Object;)Z", sig := { parameters := [(.object "java/lang/Object")], returnType := some .boolean }, accessFlags := 1, code := some k7c4 }
def k7c5 : Code := { maxStack := 4, maxLocals := 6, code := jdk_42_method_149_code, exceptionTable := #[], attributes := #[] }
def k7m5 : Method := { name := "<init>", desc := "([CIILjava/lang/Void;)V", sig := { parameters := [(.array .char), .int, .int, (.object "java/lang/Void")], returnType := none }, accessFlags := 2, code := some k7c5 }
def k7c6 : Code := { maxStack := 1, maxLocals := 1, code := jdk_42_method_152_code, exceptionTable := #[], attributes := #[] }
def k7m6 : Method := { name := "coder", desc := "()B", sig := { parameters := [], returnType := some .byte }, accessFlags := 0, code := some k7c6 }
def k7c7 : Code := { maxStack := 1, maxLocals := 1, code := jdk_42_method_154_code, exceptionTable := #[], attributes := #[] }
def k7m7 : Method := { name := "isLatin1", desc := "()Z", sig := { parameters := [], returnType := some .boolean }, accessFlags := 0, code := some k7c7 }
def k7c8 : Code := { maxStack := 3, maxLocals := 2, code := jdk_42_method_155_code, exceptionTable := #[], attributes := #[] }
def k7m8 : Method := { name := "checkIndex", desc := "(II)V", sig := { parameters := [.int, .int], returnType := none }, accessFlags := 8, code := some k7c8 }
/-- java/lang/String -/
def k7 : Class := { plain "java/lang/String" (some 0) with
  accessFlags := 49
  interfaces := #[2, 3, 4, 5, 6]
  cf := some (fileOf pool7 10 #[.nestMembers #[1103]] #[{ accessFlags := 1, nameIndex := 5, descriptorIndex := 6, attributes := #[] }, { accessFlags := 1, nameIndex := 5, descriptorIndex := 1010, attributes := #[] }, { accessFlags := 1, nameIndex := 507, descriptorIndex := 334, attributes := #[] }, { accessFlags := 1, nameIndex := 497, descriptorIndex := 427, attributes := #[] }, { accessFlags := 1, nameIndex := 543, descriptorIndex := 573, attributes := #[] }, { accessFlags := 2, nameIndex := 5, descriptorIndex := 29, attributes := #[] }, { accessFlags := 0, nameIndex := 17, descriptorIndex := 337, attributes := #[] }, { accessFlags := 0, nameIndex := 494, descriptorIndex := 142, attributes := #[] }, { accessFlags := 8, nameIndex := 501, descriptorIndex := 391, attributes := #[] }] 49 2 #[1106, 1108, 575, 1110, 1112] #[{ accessFlags := 18, nameIndex := 13, descriptorIndex := 14, attributes := #[] }, { accessFlags := 18, nameIndex := 17, descriptorIndex := 18, attributes := #[] }, { accessFlags := 2, nameIndex := 21, descriptorIndex := 22, attributes := #[] }, { accessFlags := 2, nameIndex := 25, descriptorIndex := 26, attributes := #[] }, { accessFlags := 26, nameIndex := 1116, descriptorIndex := 1117, attributes := #[] }, { accessFlags := 24, nameIndex := 40, descriptorIndex := 26, attributes := #[] }, { accessFlags := 26, nameIndex := 1101, descriptorIndex := 1102, attributes := #[] }, { accessFlags := 26, nameIndex := 1121, descriptorIndex := 1122, attributes := #[] }, { accessFlags := 25, nameIndex := 599, descriptorIndex := 600, attributes := #[] }, { accessFlags := 24, nameIndex := 1125, descriptorIndex := 18, attributes := #[] }, { accessFlags := 24, nameIndex := 1127, descriptorIndex := 18, attributes := #[] }])
  fields := #[{ name := "value", type := (.array .byte), accessFlags := 18, slot := 0, constantValue := 0 }, { name := "coder", type := .byte, accessFlags := 18, slot := 1, constantValue := 0 }, { name := "hash", type := .int, accessFlags := 2, slot := 2, constantValue := 0 }, { name := "hashIsZero", type := .boolean, accessFlags := 2, slot := 3, constantValue := 0 }, { name := "serialVersionUID", type := .long, accessFlags := 26, slot := 0, constantValue := 0 }, { name := "COMPACT_STRINGS", type := .boolean, accessFlags := 24, slot := 1, constantValue := 0 }, { name := "serialPersistentFields", type := (.array (.object "java/io/ObjectStreamField")), accessFlags := 26, slot := 2, constantValue := 0 }, { name := "REPL", type := .char, accessFlags := 26, slot := 3, constantValue := 0 }, { name := "CASE_INSENSITIVE_ORDER", type := (.object "java/util/Comparator"), accessFlags := 25, slot := 4, constantValue := 0 }, { name := "LATIN1", type := .byte, accessFlags := 24, slot := 5, constantValue := 0 }, { name := "UTF16", type := .byte, accessFlags := 24, slot := 6, constantValue := 0 }]
  methods := #[k7m0, k7m1, k7m2, k7m3, k7m4, k7m5, k7m6, k7m7, k7m8]
  instanceTypes := #[(.array .byte), .byte, .int, .boolean]
  staticTypes := #[.long, .boolean, (.array (.object "java/io/ObjectStreamField")), .char, (.object "java/util/Comparator"), .byte, .byte]
  resolved := Array.replicate 1451 none
  statics := some 0 }

def pool8 : Array CpInfo := pool [(2, .class_ 4), (1, u "java/lang/Enum"), (0, u "name"), (0, u "Ljava/lang/String;"), (2, u "ordinal"), (0, u "I"), (1, .class_ 14), (1, u "java/lang/Object"), (4, u "hash"), (86, .class_ 108), (1, u "java/lang/Enum$EnumDesc"), (2, .class_ 112), (0, u "java/lang/constant/Constable"), (0, .class_ 114), (0, u "java/lang/Comparable"), (0, .class_ 116), (0, u "java/io/Serializable")] 87

/-- java/lang/Enum -/
def k8 : Class := { plain "java/lang/Enum" (some 0) with
  accessFlags := 1057
  interfaces := #[5, 3, 2]
  cf := some (fileOf pool8 2 #[.nestMembers #[106]] #[] 1057 12 #[111, 113, 115] #[{ accessFlags := 18, nameIndex := 5, descriptorIndex := 6, attributes := #[] }, { accessFlags := 18, nameIndex := 9, descriptorIndex := 10, attributes := #[] }, { accessFlags := 2, nameIndex := 19, descriptorIndex := 10, attributes := #[] }])
  fields := #[{ name := "name", type := (.object "java/lang/String"), accessFlags := 18, slot := 0, constantValue := 0 }, { name := "ordinal", type := .int, accessFlags := 18, slot := 1, constantValue := 0 }, { name := "hash", type := .int, accessFlags := 2, slot := 2, constantValue := 0 }]
  methods := #[]
  instanceTypes := #[(.object "java/lang/String"), .int, .int]
  staticTypes := #[]
  resolved := Array.replicate 204 none
  statics := none }

def pool9 : Array CpInfo := pool [(1, .class_ 2), (0, u "com/example/confinement/confinement/policy/Verdict"), (2, u "ALLOW"), (0, u "Lcom/example/confinement/confinement/policy/Verdict;"), (2, u "DENY"), (2, u "MOCK"), (2, u "LOG"), (0, .fieldref 1 17), (0, .nameAndType 18 19), (0, u "$VALUES"), (0, u "[Lcom/example/confinement/confinement/policy/Verdict;"), (0, .methodref 21 22), (0, .class_ 19), (0, .nameAndType 23 24), (0, u "clone"), (0, u "()Ljava/lang/Object;"), (1, .class_ 28), (1, u "java/lang/Enum"), (6, .fieldref 1 36), (0, .nameAndType 37 38), (0, u "keyword"), (0, u "Ljava/lang/String;"), (0, .methodref 1 40), (0, .nameAndType 41 42), (0, u "values"), (0, u "()[Lcom/example/confinement/confinement/policy/Verdict;"), (0, .methodref 44 45), (0, .class_ 46), (0, .nameAndType 47 48), (0, u "java/lang/String"), (0, u "equals"), (0, u "(Ljava/lang/Object;)Z"), (20, u "(Ljava/lang/String;)Lcom/example/confinement/confinement/policy/Verdict;"), (4, u "forKeyword")] 6

def k9c0 : Code := { maxStack := 1, maxLocals := 0, code := prog_19_method_1_code, exceptionTable := #[], attributes := #[] }
def k9m0 : Method := { name := "values", desc := "()[Lcom/example/confinement/confinement/policy/Verdict;", sig := { parameters := [], returnType := some (.array (.object "com/example/confinement/confinement/policy/Verdict")) }, accessFlags := 9, code := some k9c0 }
def k9c1 : Code := { maxStack := 2, maxLocals := 6, code := prog_19_method_5_code, exceptionTable := #[], attributes := #[] }
def k9m1 : Method := { name := "forKeyword", desc := "(Ljava/lang/String;)Lcom/example/confinement/confinement/policy/Verdict;", sig := { parameters := [(.object "java/lang/String")], returnType := some (.object "com/example/confinement/confinement/policy/Verdict") }, accessFlags := 8, code := some k9c1 }
/-- com/example/confinement/confinement/policy/Verdict -/
def k9 : Class := { plain "com/example/confinement/confinement/policy/Verdict" (some 8) with
  accessFlags := 16433
  interfaces := #[]
  cf := some (fileOf pool9 1 #[] #[{ accessFlags := 9, nameIndex := 41, descriptorIndex := 42, attributes := #[] }, { accessFlags := 8, nameIndex := 74, descriptorIndex := 69, attributes := #[] }] 16433 26 #[] #[{ accessFlags := 16409, nameIndex := 5, descriptorIndex := 6, attributes := #[] }, { accessFlags := 16409, nameIndex := 9, descriptorIndex := 6, attributes := #[] }, { accessFlags := 16409, nameIndex := 12, descriptorIndex := 6, attributes := #[] }, { accessFlags := 16409, nameIndex := 15, descriptorIndex := 6, attributes := #[] }, { accessFlags := 18, nameIndex := 37, descriptorIndex := 38, attributes := #[] }, { accessFlags := 4122, nameIndex := 18, descriptorIndex := 19, attributes := #[] }])
  fields := #[{ name := "ALLOW", type := (.object "com/example/confinement/confinement/policy/Verdict"), accessFlags := 16409, slot := 0, constantValue := 0 }, { name := "DENY", type := (.object "com/example/confinement/confinement/policy/Verdict"), accessFlags := 16409, slot := 1, constantValue := 0 }, { name := "MOCK", type := (.object "com/example/confinement/confinement/policy/Verdict"), accessFlags := 16409, slot := 2, constantValue := 0 }, { name := "LOG", type := (.object "com/example/confinement/confinement/policy/Verdict"), accessFlags := 16409, slot := 3, constantValue := 0 }, { name := "keyword", type := (.object "java/lang/String"), accessFlags := 18, slot := 3, constantValue := 0 }, { name := "$VALUES", type := (.array (.object "com/example/confinement/confinement/policy/Verdict")), accessFlags := 4122, slot := 4, constantValue := 0 }]
  methods := #[k9m0, k9m1]
  instanceTypes := #[(.object "java/lang/String"), .int, .int, (.object "java/lang/String")]
  staticTypes := #[(.object "com/example/confinement/confinement/policy/Verdict"), (.object "com/example/confinement/confinement/policy/Verdict"), (.object "com/example/confinement/confinement/policy/Verdict"), (.object "com/example/confinement/confinement/policy/Verdict"), (.array (.object "com/example/confinement/confinement/policy/Verdict"))]
  resolved := Array.replicate 81 none
  statics := some 1 }

def pool10 : Array CpInfo := pool [(1, .class_ 2), (0, u "java/lang/String"), (1, .class_ 6), (1, u "java/lang/Object"), (0, u "<init>"), (0, u "()V"), (0, .methodref 1 10), (0, .nameAndType 11 12), (0, u "checkIndex"), (0, u "(II)V"), (1, .class_ 16), (1, u "java/lang/StringLatin1"), (36, u "([BI)C"), (67, u "$assertionsDisabled"), (0, u "Z"), (98, .class_ 223), (1, u "java/lang/StringLatin1$LinesSpliterator"), (28, u "charAt"), (28, u "equals"), (0, u "([B[B)Z"), (107, .class_ 391), (0, u "java/lang/StringLatin1$CharsSpliterator")] 3

def k10m0 : Method := { name := "<init>", desc := "()V", sig := { parameters := [], returnType := none }, accessFlags := 0, code := none }
def k10c1 : Code := { maxStack := 2, maxLocals := 2, code := jdk_43_method_2_code, exceptionTable := #[], attributes := #[] }
def k10m1 : Method := { name := "charAt", desc := "([BI)C", sig := { parameters := [(.array .byte), .int], returnType := some .char }, accessFlags := 9, code := some k10c1 }
def k10c2 : Code := { maxStack := 3, maxLocals := 3, code := jdk_43_method_13_code, exceptionTable := #[], attributes := #[] }
def k10m2 : Method := { name := "equals", desc := "([B[B)Z", sig := { parameters := [(.array .byte), (.array .byte)], returnType := some .boolean }, accessFlags := 9, code := some k10c2 }
/-- java/lang/StringLatin1 -/
def k10 : Class := { plain "java/lang/StringLatin1" (some 0) with
  accessFlags := 48
  interfaces := #[]
  cf := some (fileOf pool10 14 #[.nestMembers #[390, 221]] #[{ accessFlags := 0, nameIndex := 7, descriptorIndex := 8, attributes := #[] }, { accessFlags := 9, nameIndex := 252, descriptorIndex := 53, attributes := #[] }, { accessFlags := 9, nameIndex := 281, descriptorIndex := 282, attributes := #[] }] 48 4 #[] #[{ accessFlags := 4120, nameIndex := 121, descriptorIndex := 122, attributes := #[] }])
  fields := #[{ name := "$assertionsDisabled", type := .boolean, accessFlags := 4120, slot := 0, constantValue := 0 }]
  methods := #[k10m0, k10m1, k10m2]
  instanceTypes := #[]
  staticTypes := #[.boolean]
  resolved := Array.replicate 395 none
  statics := none }

def pool11 : Array CpInfo := pool [(2, .class_ 4), (1, u "java/lang/Object"), (0, u "<init>"), (0, u "()V"), (17, .class_ 26), (1, u "jdk/internal/util/Preconditions"), (6, u "checkIndex"), (21, .class_ 56), (0, u "jdk/internal/util/Preconditions$4"), (57, .class_ 115), (0, u "jdk/internal/util/Preconditions$1"), (7, u "SIOOBE_FORMATTER"), (0, u "Ljava/util/function/BiFunction;"), (0, .class_ 126), (0, u "jdk/internal/util/Preconditions$2"), (3, u "AIOOBE_FORMATTER"), (0, .class_ 132), (0, u "jdk/internal/util/Preconditions$3"), (3, u "IOOBE_FORMATTER"), (41, u "(IILjava/util/function/BiFunction;)I")] 15

def k11m0 : Method := { name := "<init>", desc := "()V", sig := { parameters := [], returnType := none }, accessFlags := 1, code := none }
def k11c1 : Code := { maxStack := 3, maxLocals := 3, code := jdk_41_method_11_code, exceptionTable := #[], attributes := #[] }
def k11m1 : Method := { name := "checkIndex", desc := "(IILjava/util/function/BiFunction;)I", sig := { parameters := [.int, .int, (.object "java/util/function/BiFunction")], returnType := some .int }, accessFlags := 9, code := some k11c1 }
/-- jdk/internal/util/Preconditions -/
def k11 : Class := { plain "jdk/internal/util/Preconditions" (some 0) with
  accessFlags := 33
  interfaces := #[]
  cf := some (fileOf pool11 24 #[.nestMembers #[55, 131, 125, 114]] #[{ accessFlags := 1, nameIndex := 5, descriptorIndex := 6, attributes := #[] }, { accessFlags := 9, nameIndex := 33, descriptorIndex := 178, attributes := #[] }] 33 2 #[] #[{ accessFlags := 25, nameIndex := 123, descriptorIndex := 124, attributes := #[] }, { accessFlags := 25, nameIndex := 130, descriptorIndex := 124, attributes := #[] }, { accessFlags := 25, nameIndex := 136, descriptorIndex := 124, attributes := #[] }])
  fields := #[{ name := "SIOOBE_FORMATTER", type := (.object "java/util/function/BiFunction"), accessFlags := 25, slot := 0, constantValue := 0 }, { name := "AIOOBE_FORMATTER", type := (.object "java/util/function/BiFunction"), accessFlags := 25, slot := 1, constantValue := 0 }, { name := "IOOBE_FORMATTER", type := (.object "java/util/function/BiFunction"), accessFlags := 25, slot := 2, constantValue := 0 }]
  methods := #[k11m0, k11m1]
  instanceTypes := #[]
  staticTypes := #[(.object "java/util/function/BiFunction"), (.object "java/util/function/BiFunction"), (.object "java/util/function/BiFunction")]
  resolved := Array.replicate 194 none
  statics := some 2 }

def pool12 : Array CpInfo := pool [(6, .class_ 8), (1, u "java/lang/Object"), (0, u "<init>"), (0, u "()V"), (0, .methodref 12 13), (0, .class_ 14), (0, .nameAndType 15 16), (0, u "java/lang/StringUTF16"), (0, u "newBytesLength"), (0, u "(I)I"), (3, .integer 1073741823), (23, .fieldref 12 45), (0, .nameAndType 46 47), (0, u "$assertionsDisabled"), (0, u "Z"), (11, .fieldref 12 60), (0, .nameAndType 61 62), (0, u "HI_BYTE_SHIFT"), (0, u "I"), (0, .fieldref 12 64), (0, .nameAndType 65 62), (0, u "LO_BYTE_SHIFT"), (5, .methodref 12 72), (0, .nameAndType 73 74), (0, u "getChar"), (0, u "([BI)C"), (32, .methodref 12 108), (0, .nameAndType 109 110), (0, u "newBytesFor"), (0, u "(I)[B"), (0, .methodref 12 112), (0, .nameAndType 113 114), (0, u "putChar"), (0, u "([BII)V"), (0, .methodref 12 116), (0, .nameAndType 117 118), (0, u "compress"), (0, u "([CI[BII)I"), (0, .methodref 12 120), (0, .nameAndType 121 122), (0, u "toBytes"), (0, u "([CII)[B"), (138, u "coderFromArrayLen"), (0, u "([BI)B"), (106, .class_ 371), (1, u "java/lang/StringUTF16$LinesSpliterator"), (58, u "MAX_LENGTH"), (196, .class_ 628), (0, u "java/lang/StringUTF16$CodePointsSpliterator"), (0, .class_ 630), (0, u "java/lang/StringUTF16$CharsSpliterator")] 4

def k12m0 : Method := { name := "<init>", desc := "()V", sig := { parameters := [], returnType := none }, accessFlags := 0, code := none }
def k12c1 : Code := { maxStack := 1, maxLocals := 1, code := jdk_52_method_2_code, exceptionTable := #[], attributes := #[] }
def k12m1 : Method := { name := "newBytesFor", desc := "(I)[B", sig := { parameters := [.int], returnType := some (.array .byte) }, accessFlags := 9, code := some k12c1 }
def k12c2 : Code := { maxStack := 4, maxLocals := 1, code := jdk_52_method_3_code, exceptionTable := #[], attributes := #[] }
def k12m2 : Method := { name := "newBytesLength", desc := "(I)I", sig := { parameters := [.int], returnType := some .int }, accessFlags := 9, code := some k12c2 }
def k12c3 : Code := { maxStack := 4, maxLocals := 3, code := jdk_52_method_4_code, exceptionTable := #[], attributes := #[] }
def k12m3 : Method := { name := "putChar", desc := "([BII)V", sig := { parameters := [(.array .byte), .int, .int], returnType := none }, accessFlags := 8, code := some k12c3 }
def k12c4 : Code := { maxStack := 3, maxLocals := 2, code := jdk_52_method_5_code, exceptionTable := #[], attributes := #[] }
def k12m4 : Method := { name := "getChar", desc := "([BI)C", sig := { parameters := [(.array .byte), .int], returnType := some .char }, accessFlags := 8, code := some k12c4 }
def k12c5 : Code := { maxStack := 4, maxLocals := 5, code := jdk_52_method_14_code, exceptionTable := #[], attributes := #[] }
def k12m5 : Method := { name := "toBytes", desc := "([CII)[B", sig := { parameters := [(.array .char), .int, .int], returnType := some (.array .byte) }, accessFlags := 9, code := some k12c5 }
def k12c6 : Code := { maxStack := 2, maxLocals := 2, code := jdk_52_method_15_code, exceptionTable := #[], attributes := #[] }
def k12m6 : Method := { name := "coderFromArrayLen", desc := "([BI)B", sig := { parameters := [(.array .byte), .int], returnType := some .byte }, accessFlags := 8, code := some k12c6 }
def k12c7 : Code := { maxStack := 5, maxLocals := 6, code := jdk_52_method_16_code, exceptionTable := #[], attributes := #[] }
def k12m7 : Method := { name := "compress", desc := "([CII)[B", sig := { parameters := [(.array .char), .int, .int], returnType := some (.array .byte) }, accessFlags := 9, code := some k12c7 }
def k12c8 : Code := { maxStack := 3, maxLocals := 7, code := jdk_52_method_21_code, exceptionTable := #[], attributes := #[] }
def k12m8 : Method := { name := "compress", desc := "([CI[BII)I", sig := { parameters := [(.array .char), .int, (.array .byte), .int, .int], returnType := some .int }, accessFlags := 9, code := some k12c8 }
/-- java/lang/StringUTF16 -/
def k12 : Class := { plain "java/lang/StringUTF16" (some 0) with
  accessFlags := 48
  interfaces := #[]
  cf := some (fileOf pool12 12 #[.nestMembers #[627, 629, 369]] #[{ accessFlags := 0, nameIndex := 9, descriptorIndex := 10, attributes := #[] }, { accessFlags := 9, nameIndex := 109, descriptorIndex := 110, attributes := #[] }, { accessFlags := 9, nameIndex := 15, descriptorIndex := 16, attributes := #[] }, { accessFlags := 8, nameIndex := 113, descriptorIndex := 114, attributes := #[] }, { accessFlags := 8, nameIndex := 73, descriptorIndex := 74, attributes := #[] }, { accessFlags := 9, nameIndex := 121, descriptorIndex := 122, attributes := #[] }, { accessFlags := 8, nameIndex := 261, descriptorIndex := 262, attributes := #[] }, { accessFlags := 9, nameIndex := 117, descriptorIndex := 122, attributes := #[] }, { accessFlags := 9, nameIndex := 117, descriptorIndex := 118, attributes := #[] }] 48 6 #[] #[{ accessFlags := 26, nameIndex := 61, descriptorIndex := 62, attributes := #[] }, { accessFlags := 26, nameIndex := 65, descriptorIndex := 62, attributes := #[] }, { accessFlags := 24, nameIndex := 430, descriptorIndex := 62, attributes := #[] }, { accessFlags := 4120, nameIndex := 46, descriptorIndex := 47, attributes := #[] }])
  fields := #[{ name := "HI_BYTE_SHIFT", type := .int, accessFlags := 26, slot := 0, constantValue := 0 }, { name := "LO_BYTE_SHIFT", type := .int, accessFlags := 26, slot := 1, constantValue := 0 }, { name := "MAX_LENGTH", type := .int, accessFlags := 24, slot := 2, constantValue := 0 }, { name := "$assertionsDisabled", type := .boolean, accessFlags := 4120, slot := 3, constantValue := 0 }]
  methods := #[k12m0, k12m1, k12m2, k12m3, k12m4, k12m5, k12m6, k12m7, k12m8]
  instanceTypes := #[]
  staticTypes := #[.int, .int, .int, .boolean]
  resolved := Array.replicate 635 none
  statics := some 3 }

def pool13 : Array CpInfo := pool [(1, .class_ 2), (0, u "java/lang/Cloneable"), (0, .class_ 4), (0, u "java/lang/Object")] 2

/-- java/lang/Cloneable -/
def k13 : Class := { plain "java/lang/Cloneable" (some 0) with
  accessFlags := 1537
  interfaces := #[]
  cf := some (fileOf pool13 1 #[] #[] 1537 3 #[] #[])
  fields := #[]
  methods := #[]
  instanceTypes := #[]
  staticTypes := #[]
  resolved := Array.replicate 7 none
  statics := none }

def pool14 : Array CpInfo := pool [(9, u "<init>"), (6, .class_ 18), (1, u "java/lang/Object"), (0, u "()V"), (1, .class_ 23), (1, u "jdk/internal/util/ArraysSupport"), (0, u "LOG2_ARRAY_LONG_INDEX_SCALE"), (0, u "I"), (2, u "U"), (0, u "Ljdk/internal/misc/Unsafe;"), (8, u "BIG_ENDIAN"), (0, u "Z"), (8, u "LOG2_BYTE_BIT_SIZE"), (4, u "LOG2_ARRAY_INT_INDEX_SCALE"), (54, u "JLA"), (0, u "Ljdk/internal/access/JavaLangAccess;"), (11, u "LOG2_ARRAY_BOOLEAN_INDEX_SCALE"), (9, u "LOG2_ARRAY_BYTE_INDEX_SCALE"), (5, u "LOG2_ARRAY_CHAR_INDEX_SCALE"), (5, u "LOG2_ARRAY_SHORT_INDEX_SCALE"), (18, u "LOG2_ARRAY_FLOAT_INDEX_SCALE"), (24, u "LOG2_ARRAY_DOUBLE_INDEX_SCALE"), (89, u "T_BOOLEAN"), (2, u "T_CHAR"), (1, u "T_FLOAT"), (1, u "T_DOUBLE"), (1, u "T_BYTE"), (1, u "T_SHORT"), (1, u "T_INT"), (1, u "T_LONG"), (1, u "SOFT_MAX_ARRAY_LENGTH")] 83

def k14m0 : Method := { name := "<init>", desc := "()V", sig := { parameters := [], returnType := none }, accessFlags := 2, code := none }
/-- jdk/internal/util/ArraysSupport -/
def k14 : Class := { plain "jdk/internal/util/ArraysSupport" (some 0) with
  accessFlags := 33
  interfaces := #[]
  cf := some (fileOf pool14 21 #[] #[{ accessFlags := 2, nameIndex := 9, descriptorIndex := 19, attributes := #[] }] 33 16 #[] #[{ accessFlags := 24, nameIndex := 28, descriptorIndex := 29, attributes := #[] }, { accessFlags := 26, nameIndex := 38, descriptorIndex := 39, attributes := #[] }, { accessFlags := 25, nameIndex := 121, descriptorIndex := 25, attributes := #[] }, { accessFlags := 25, nameIndex := 131, descriptorIndex := 25, attributes := #[] }, { accessFlags := 25, nameIndex := 137, descriptorIndex := 25, attributes := #[] }, { accessFlags := 25, nameIndex := 143, descriptorIndex := 25, attributes := #[] }, { accessFlags := 25, nameIndex := 53, descriptorIndex := 25, attributes := #[] }, { accessFlags := 25, nameIndex := 24, descriptorIndex := 25, attributes := #[] }, { accessFlags := 25, nameIndex := 162, descriptorIndex := 25, attributes := #[] }, { accessFlags := 25, nameIndex := 187, descriptorIndex := 25, attributes := #[] }, { accessFlags := 26, nameIndex := 48, descriptorIndex := 25, attributes := #[] }, { accessFlags := 25, nameIndex := 277, descriptorIndex := 25, attributes := #[] }, { accessFlags := 25, nameIndex := 280, descriptorIndex := 25, attributes := #[] }, { accessFlags := 25, nameIndex := 282, descriptorIndex := 25, attributes := #[] }, { accessFlags := 25, nameIndex := 284, descriptorIndex := 25, attributes := #[] }, { accessFlags := 25, nameIndex := 286, descriptorIndex := 25, attributes := #[] }, { accessFlags := 25, nameIndex := 288, descriptorIndex := 25, attributes := #[] }, { accessFlags := 25, nameIndex := 290, descriptorIndex := 25, attributes := #[] }, { accessFlags := 25, nameIndex := 292, descriptorIndex := 25, attributes := #[] }, { accessFlags := 26, nameIndex := 108, descriptorIndex := 109, attributes := #[] }, { accessFlags := 25, nameIndex := 294, descriptorIndex := 25, attributes := #[] }])
  fields := #[{ name := "U", type := (.object "jdk/internal/misc/Unsafe"), accessFlags := 24, slot := 0, constantValue := 0 }, { name := "BIG_ENDIAN", type := .boolean, accessFlags := 26, slot := 1, constantValue := 0 }, { name := "LOG2_ARRAY_BOOLEAN_INDEX_SCALE", type := .int, accessFlags := 25, slot := 2, constantValue := 0 }, { name := "LOG2_ARRAY_BYTE_INDEX_SCALE", type := .int, accessFlags := 25, slot := 3, constantValue := 0 }, { name := "LOG2_ARRAY_CHAR_INDEX_SCALE", type := .int, accessFlags := 25, slot := 4, constantValue := 0 }, { name := "LOG2_ARRAY_SHORT_INDEX_SCALE", type := .int, accessFlags := 25, slot := 5, constantValue := 0 }, { name := "LOG2_ARRAY_INT_INDEX_SCALE", type := .int, accessFlags := 25, slot := 6, constantValue := 0 }, { name := "LOG2_ARRAY_LONG_INDEX_SCALE", type := .int, accessFlags := 25, slot := 7, constantValue := 0 }, { name := "LOG2_ARRAY_FLOAT_INDEX_SCALE", type := .int, accessFlags := 25, slot := 8, constantValue := 0 }, { name := "LOG2_ARRAY_DOUBLE_INDEX_SCALE", type := .int, accessFlags := 25, slot := 9, constantValue := 0 }, { name := "LOG2_BYTE_BIT_SIZE", type := .int, accessFlags := 26, slot := 10, constantValue := 0 }, { name := "T_BOOLEAN", type := .int, accessFlags := 25, slot := 11, constantValue := 0 }, { name := "T_CHAR", type := .int, accessFlags := 25, slot := 12, constantValue := 0 }, { name := "T_FLOAT", type := .int, accessFlags := 25, slot := 13, constantValue := 0 }, { name := "T_DOUBLE", type := .int, accessFlags := 25, slot := 14, constantValue := 0 }, { name := "T_BYTE", type := .int, accessFlags := 25, slot := 15, constantValue := 0 }, { name := "T_SHORT", type := .int, accessFlags := 25, slot := 16, constantValue := 0 }, { name := "T_INT", type := .int, accessFlags := 25, slot := 17, constantValue := 0 }, { name := "T_LONG", type := .int, accessFlags := 25, slot := 18, constantValue := 0 }, { name := "JLA", type := (.object "jdk/internal/access/JavaLangAccess"), accessFlags := 26, slot := 19, constantValue := 0 }, { name := "SOFT_MAX_ARRAY_LENGTH", type := .int, accessFlags := 25, slot := 20, constantValue := 0 }]
  methods := #[k14m0]
  instanceTypes := #[]
  staticTypes := #[(.object "jdk/internal/misc/Unsafe"), .boolean, .int, .int, .int, .int, .int, .int, .int, .int, .int, .int, .int, .int, .int, .int, .int, .int, .int, (.object "jdk/internal/access/JavaLangAccess"), .int]
  resolved := Array.replicate 378 none
  statics := none }

/-- the primitive byte -/
def k15 : Class := { plain "byte" none with kind := .primitive 'B', accessFlags := 0x411 }
/-- [B -/
def k16 : Class := { plain "[B" (some 0) with kind := .array 15 .byte, interfaces := #[13, 2], accessFlags := 1041 }

/-- the primitive char -/
def k17 : Class := { plain "char" none with kind := .primitive 'C', accessFlags := 0x411 }
/-- [C -/
def k18 : Class := { plain "[C" (some 0) with kind := .array 17 .char, interfaces := #[13, 2], accessFlags := 1041 }

/-- the primitive int -/
def k19 : Class := { plain "int" none with kind := .primitive 'I', accessFlags := 0x411 }
/-- [I -/
def k20 : Class := { plain "[I" (some 0) with kind := .array 19 .int, interfaces := #[13, 2], accessFlags := 1041 }

/-- [Lcom/example/confinement/confinement/policy/Verdict; -/
def k21 : Class := { plain "[Lcom/example/confinement/confinement/policy/Verdict;" (some 0) with kind := .array 9 (.object "com/example/confinement/confinement/policy/Verdict"), interfaces := #[13, 2], accessFlags := 1041 }

def heap : Heap := #[{ cls := 7, slots := #[.long 0, .int 1, .null, .int 0, .null, .int 0, .int 0], vm := .statics 7 },
  { cls := 9, slots := #[.ref 5, .ref 6, .ref 7, .ref 8, .ref 4], vm := .statics 9 },
  { cls := 11, slots := #[.null, .null, .null], vm := .statics 11 },
  { cls := 12, slots := #[.int 0, .int 8, .int 0, .int 1], vm := .statics 12 },
  { cls := 21, slots := #[.ref 5, .ref 6, .ref 7, .ref 8], vm := .none },
  { cls := 9, slots := #[.null, .int 0, .int 0, .ref 9], vm := .none },
  { cls := 9, slots := #[.null, .int 1, .int 0, .ref 10], vm := .none },
  { cls := 9, slots := #[.null, .int 2, .int 0, .ref 11], vm := .none },
  { cls := 9, slots := #[.null, .int 3, .int 0, .ref 12], vm := .none },
  { cls := 7, slots := #[.ref 13, .int 0, .int 0, .int 0], vm := .none },
  { cls := 7, slots := #[.ref 14, .int 0, .int 0, .int 0], vm := .none },
  { cls := 7, slots := #[.ref 15, .int 0, .int 0, .int 0], vm := .none },
  { cls := 7, slots := #[.ref 16, .int 0, .int 0, .int 0], vm := .none },
  { cls := 16, slots := #[.int 97, .int 108, .int 108, .int 111, .int 119], vm := .none },
  { cls := 16, slots := #[.int 100, .int 101, .int 110, .int 121], vm := .none },
  { cls := 16, slots := #[.int 109, .int 111, .int 99, .int 107], vm := .none },
  { cls := 16, slots := #[.int 108, .int 111, .int 103], vm := .none }]
def classes : Array Class := #[k0, k1, k2, k3, k4, k5, k6, k7, k8, k9, k10, k11, k12, k13, k14, k15, k16, k17, k18, k19, k20, k21]
def interned : List (Array UInt16 × Addr) := []
def slotsUsed : Nat := 71
def theMethod : MethodId := ⟨1, 8⟩
def args0 : Array Value := #[.int 5, .int 5, .int 5, .long 5]
def aboutOver (below : List Frame) : State where
  vm := { classes := classes, interned := interned.toArray }
  heap := heap
  slotsUsed := slotsUsed
  threads := #[{ frames := .invoking theMethod args0 :: below }]
def below0 : List Frame := [.native { method := ⟨0, 0⟩, args := #[] }]
def about1 : State := aboutOver below0
def p0 : Program := .bare "" "" ""
def e0 : Env := launch0.env 0 0 0
theorem w_frames : about1.frames = Frame.invoking theMethod args0 :: below0 := rfl
set_option maxRecDepth 65536 in
theorem w_args : argsFit about1.vm theMethod args0 = true := by decide +kernel
set_option maxRecDepth 65536 in
theorem w_heap : heapFits about1 = true := by decide +kernel
set_option maxRecDepth 65536 in
theorem w_runnable : about1.curStatus? = some .runnable := by decide +kernel
set_option maxRecDepth 65536 in
theorem w_alone : about1.alone = true := by decide +kernel
set_option maxRecDepth 65536 in
theorem w_named : about1.methodNamed? x = some theMethod := by decide +kernel
set_option maxRecDepth 65536 in
theorem w_hears : about1.hears theMethod below0 = true := by decide +kernel
set_option maxRecDepth 65536 in
theorem w_ripe : about1.ripe theMethod args0 below0 = true := by decide +kernel
theorem w_running : about1.status = .running := rfl
set_option maxRecDepth 65536 in
theorem w_room : about1.hasRoom e0.platform room_1 = true :=
  launch0.hasRoom_least _ room_1 (by decide +kernel) (by decide +kernel) (by decide +kernel) (by decide +kernel) (by decide +kernel) (by decide +kernel)
theorem allAtoms_all (ts : List Jvm.Cond) (a : Array Jvm.Value) (st : Jvm.State) : (allAtoms ts).before a st = ts.all (fun c => c.before a st) := by
  induction ts with
  | nil => rfl
  | cons c t ih =>
    show (Jvm.Cond.and c (allAtoms t)).before a st = _
    rw [Jvm.Cond.before_and, ih, List.all_cons]
def words1 : List Jvm.Cond := Jvm.Cond.code x code maxLocals ret :: tables_1
/-- a 'code' word, met by the world's own term for the bytes: nothing is compared byte by byte -/
theorem code_word {y : MethodName} {bytes : ByteArray} {mx : Nat} {rt : Option FieldType} {a : Array Value} {s : State} {m : MethodId} {meth : Method} {c : Code} (h1 : s.methodNamed? y = some m) (h2 : s.vm.method? m = some meth) (h3 : meth.code = some c) (h4 : c.code = bytes)
    (h5 : (c.maxLocals == mx && c.exceptionTable.isEmpty && decide (c.maxStack ≤ mostOperands) && decide (meth.sig.returnType = rt) && !meth.locks && decide (parseMethodDescriptor y.desc = some meth.sig)) = true) : (Jvm.Cond.code y bytes mx rt).before a s = true := by
  simp only [Bool.and_eq_true, beq_iff_eq, Bool.not_eq_true', decide_eq_true_eq] at h5
  obtain ⟨⟨⟨⟨⟨g1, g2⟩, g3⟩, g4⟩, g5⟩, g6⟩ := h5
  simp [Cond.before, Cond.holds, Cond.value, h1, h2, h3, h4, g1, g2, g3, g4, g5, g6]
def isCode : Jvm.Cond → Bool
  | .code _ _ _ _ => true
  | _ => false
theorem all_split {L : List Jvm.Cond} {P : Jvm.Cond → Bool} (h1 : L.all (fun c => isCode c || P c) = true) (h2 : ∀ c ∈ L.filter isCode, P c = true) : L.all P = true := by
  refine List.all_eq_true.mpr fun c hc => ?_
  have h := List.all_eq_true.mp h1 c hc
  rcases Bool.eq_false_or_eq_true (isCode c) with hi | hi
  · exact h2 c (List.mem_filter.mpr ⟨hc, hi⟩)
  · simpa [hi] using h
set_option maxRecDepth 65536 in
theorem w_c0 : (Jvm.Cond.code x code maxLocals ret).before args0 about1 = true := code_word (m := ⟨1, 8⟩) (meth := k1m8) (c := k1c8) (by decide +kernel) rfl rfl rfl (by decide +kernel)
set_option maxRecDepth 65536 in
theorem w_c1 : (Jvm.Cond.code ({ cls := "com/example/confinement/confinement/policy/VerdictForKeywordPinLaw", name := "kw", desc := "(I)Ljava/lang/String;" } : Jvm.MethodName) method_2_code (1 : Nat) (Option.some (Jvm.ClassFile.FieldType.object "java/lang/String"))).before args0 about1 = true := code_word (m := ⟨1, 1⟩) (meth := k1m1) (c := k1c1) (by decide +kernel) rfl rfl rfl (by decide +kernel)
set_option maxRecDepth 65536 in
theorem w_c2 : (Jvm.Cond.code ({ cls := "com/example/confinement/confinement/policy/VerdictForKeywordPinLaw", name := "ek", desc := "(I)Lcom/example/confinement/confinement/policy/Verdict;" } : Jvm.MethodName) method_3_code (1 : Nat) (Option.some (Jvm.ClassFile.FieldType.object "com/example/confinement/confinement/policy/Verdict"))).before args0 about1 = true := code_word (m := ⟨1, 2⟩) (meth := k1m2) (c := k1c2) (by decide +kernel) rfl rfl rfl (by decide +kernel)
set_option maxRecDepth 65536 in
theorem w_c3 : (Jvm.Cond.code ({ cls := "java/lang/String", name := "length", desc := "()I" } : Jvm.MethodName) jdk_42_method_54_code (1 : Nat) (Option.some Jvm.ClassFile.FieldType.int)).before args0 about1 = true := code_word (m := ⟨7, 2⟩) (meth := k7m2) (c := k7c2) (by decide +kernel) rfl rfl rfl (by decide +kernel)
set_option maxRecDepth 65536 in
theorem w_c4 : (Jvm.Cond.code ({ cls := "java/lang/String", name := "coder", desc := "()B" } : Jvm.MethodName) jdk_42_method_152_code (1 : Nat) (Option.some Jvm.ClassFile.FieldType.byte)).before args0 about1 = true := code_word (m := ⟨7, 6⟩) (meth := k7m6) (c := k7c6) (by decide +kernel) rfl rfl rfl (by decide +kernel)
set_option maxRecDepth 65536 in
theorem w_c5 : (Jvm.Cond.code ({ cls := "com/example/confinement/confinement/policy/VerdictForKeywordPinLaw", name := "copyKw", desc := "(Ljava/lang/String;I)[C" } : Jvm.MethodName) method_5_code (4 : Nat) (Option.some (Jvm.ClassFile.FieldType.array Jvm.ClassFile.FieldType.char))).before args0 about1 = true := code_word (m := ⟨1, 4⟩) (meth := k1m4) (c := k1c4) (by decide +kernel) rfl rfl rfl (by decide +kernel)
set_option maxRecDepth 65536 in
theorem w_c6 : (Jvm.Cond.code ({ cls := "com/example/confinement/confinement/policy/VerdictForKeywordPinLaw", name := "alloc", desc := "(I)[C" } : Jvm.MethodName) method_4_code (1 : Nat) (Option.some (Jvm.ClassFile.FieldType.array Jvm.ClassFile.FieldType.char))).before args0 about1 = true := code_word (m := ⟨1, 3⟩) (meth := k1m3) (c := k1c3) (by decide +kernel) rfl rfl rfl (by decide +kernel)
set_option maxRecDepth 65536 in
theorem w_c7 : (Jvm.Cond.code ({ cls := "java/lang/String", name := "charAt", desc := "(I)C" } : Jvm.MethodName) jdk_42_method_56_code (2 : Nat) (Option.some Jvm.ClassFile.FieldType.char)).before args0 about1 = true := code_word (m := ⟨7, 3⟩) (meth := k7m3) (c := k7c3) (by decide +kernel) rfl rfl rfl (by decide +kernel)
set_option maxRecDepth 65536 in
theorem w_c8 : (Jvm.Cond.code ({ cls := "java/lang/String", name := "isLatin1", desc := "()Z" } : Jvm.MethodName) jdk_42_method_154_code (1 : Nat) (Option.some Jvm.ClassFile.FieldType.boolean)).before args0 about1 = true := code_word (m := ⟨7, 7⟩) (meth := k7m7) (c := k7c7) (by decide +kernel) rfl rfl rfl (by decide +kernel)
set_option maxRecDepth 65536 in
theorem w_c9 : (Jvm.Cond.code ({ cls := "java/lang/StringLatin1", name := "charAt", desc := "([BI)C" } : Jvm.MethodName) jdk_43_method_2_code (2 : Nat) (Option.some Jvm.ClassFile.FieldType.char)).before args0 about1 = true := code_word (m := ⟨10, 1⟩) (meth := k10m1) (c := k10c1) (by decide +kernel) rfl rfl rfl (by decide +kernel)
set_option maxRecDepth 65536 in
theorem w_c10 : (Jvm.Cond.code ({ cls := "java/lang/String", name := "checkIndex", desc := "(II)V" } : Jvm.MethodName) jdk_42_method_155_code (2 : Nat) (Option.none : Option Jvm.ClassFile.FieldType)).before args0 about1 = true := code_word (m := ⟨7, 8⟩) (meth := k7m8) (c := k7c8) (by decide +kernel) rfl rfl rfl (by decide +kernel)
set_option maxRecDepth 65536 in
theorem w_c11 : (Jvm.Cond.code ({ cls := "jdk/internal/util/Preconditions", name := "checkIndex", desc := "(IILjava/util/function/BiFunction;)I" } : Jvm.MethodName) jdk_41_method_11_code (3 : Nat) (Option.some Jvm.ClassFile.FieldType.int)).before args0 about1 = true := code_word (m := ⟨11, 1⟩) (meth := k11m1) (c := k11c1) (by decide +kernel) rfl rfl rfl (by decide +kernel)
set_option maxRecDepth 65536 in
theorem w_c12 : (Jvm.Cond.code ({ cls := "java/lang/String", name := "<init>", desc := "([C)V" } : Jvm.MethodName) jdk_42_method_3_code (2 : Nat) (Option.none : Option Jvm.ClassFile.FieldType)).before args0 about1 = true := code_word (m := ⟨7, 1⟩) (meth := k7m1) (c := k7c1) (by decide +kernel) rfl rfl rfl (by decide +kernel)
set_option maxRecDepth 65536 in
theorem w_c13 : (Jvm.Cond.code ({ cls := "java/lang/String", name := "<init>", desc := "([CIILjava/lang/Void;)V" } : Jvm.MethodName) jdk_42_method_149_code (6 : Nat) (Option.none : Option Jvm.ClassFile.FieldType)).before args0 about1 = true := code_word (m := ⟨7, 5⟩) (meth := k7m5) (c := k7c5) (by decide +kernel) rfl rfl rfl (by decide +kernel)
set_option maxRecDepth 65536 in
theorem w_c14 : (Jvm.Cond.code ({ cls := "java/lang/Object", name := "<init>", desc := "()V" } : Jvm.MethodName) object_method_1_code (1 : Nat) (Option.none : Option Jvm.ClassFile.FieldType)).before args0 about1 = true := code_word (m := ⟨0, 0⟩) (meth := k0m0) (c := k0c0) (by decide +kernel) rfl rfl rfl (by decide +kernel)
set_option maxRecDepth 65536 in
theorem w_c15 : (Jvm.Cond.code ({ cls := "java/lang/StringUTF16", name := "compress", desc := "([CII)[B" } : Jvm.MethodName) jdk_52_method_16_code (6 : Nat) (Option.some (Jvm.ClassFile.FieldType.array Jvm.ClassFile.FieldType.byte))).before args0 about1 = true := code_word (m := ⟨12, 7⟩) (meth := k12m7) (c := k12c7) (by decide +kernel) rfl rfl rfl (by decide +kernel)
set_option maxRecDepth 65536 in
theorem w_c16 : (Jvm.Cond.code ({ cls := "java/lang/StringUTF16", name := "compress", desc := "([CI[BII)I" } : Jvm.MethodName) jdk_52_method_21_code (7 : Nat) (Option.some Jvm.ClassFile.FieldType.int)).before args0 about1 = true := code_word (m := ⟨12, 8⟩) (meth := k12m8) (c := k12c8) (by decide +kernel) rfl rfl rfl (by decide +kernel)
set_option maxRecDepth 65536 in
theorem w_c17 : (Jvm.Cond.code ({ cls := "java/lang/StringUTF16", name := "coderFromArrayLen", desc := "([BI)B" } : Jvm.MethodName) jdk_52_method_15_code (2 : Nat) (Option.some Jvm.ClassFile.FieldType.byte)).before args0 about1 = true := code_word (m := ⟨12, 6⟩) (meth := k12m6) (c := k12c6) (by decide +kernel) rfl rfl rfl (by decide +kernel)
set_option maxRecDepth 65536 in
theorem w_c18 : (Jvm.Cond.code ({ cls := "com/example/confinement/confinement/policy/Verdict", name := "forKeyword", desc := "(Ljava/lang/String;)Lcom/example/confinement/confinement/policy/Verdict;" } : Jvm.MethodName) prog_19_method_5_code (6 : Nat) (Option.some (Jvm.ClassFile.FieldType.object "com/example/confinement/confinement/policy/Verdict"))).before args0 about1 = true := code_word (m := ⟨9, 1⟩) (meth := k9m1) (c := k9c1) (by decide +kernel) rfl rfl rfl (by decide +kernel)
set_option maxRecDepth 65536 in
theorem w_c19 : (Jvm.Cond.code ({ cls := "com/example/confinement/confinement/policy/Verdict", name := "values", desc := "()[Lcom/example/confinement/confinement/policy/Verdict;" } : Jvm.MethodName) prog_19_method_1_code (0 : Nat) (Option.some (Jvm.ClassFile.FieldType.array (Jvm.ClassFile.FieldType.object "com/example/confinement/confinement/policy/Verdict")))).before args0 about1 = true := code_word (m := ⟨9, 0⟩) (meth := k9m0) (c := k9c0) (by decide +kernel) rfl rfl rfl (by decide +kernel)
set_option maxRecDepth 65536 in
theorem w_c20 : (Jvm.Cond.code ({ cls := "java/lang/String", name := "equals", desc := "(Ljava/lang/Object;)Z" } : Jvm.MethodName) jdk_42_method_66_code (3 : Nat) (Option.some Jvm.ClassFile.FieldType.boolean)).before args0 about1 = true := code_word (m := ⟨7, 4⟩) (meth := k7m4) (c := k7c4) (by decide +kernel) rfl rfl rfl (by decide +kernel)
set_option maxRecDepth 65536 in
theorem w_c21 : (Jvm.Cond.code ({ cls := "java/lang/StringLatin1", name := "equals", desc := "([B[B)Z" } : Jvm.MethodName) jdk_43_method_13_code (3 : Nat) (Option.some Jvm.ClassFile.FieldType.boolean)).before args0 about1 = true := code_word (m := ⟨10, 2⟩) (meth := k10m2) (c := k10c2) (by decide +kernel) rfl rfl rfl (by decide +kernel)
set_option maxRecDepth 65536 in
theorem w_c22 : (Jvm.Cond.code ({ cls := "com/example/confinement/confinement/policy/VerdictForKeywordPinLaw", name := "drawnChars", desc := "(JI)[C" } : Jvm.MethodName) method_7_code (4 : Nat) (Option.some (Jvm.ClassFile.FieldType.array Jvm.ClassFile.FieldType.char))).before args0 about1 = true := code_word (m := ⟨1, 6⟩) (meth := k1m6) (c := k1c6) (by decide +kernel) rfl rfl rfl (by decide +kernel)
set_option maxRecDepth 65536 in
theorem w_c23 : (Jvm.Cond.code ({ cls := "com/example/confinement/confinement/policy/VerdictForKeywordPinLaw", name := "drawn", desc := "(JI)C" } : Jvm.MethodName) method_6_code (3 : Nat) (Option.some Jvm.ClassFile.FieldType.char)).before args0 about1 = true := code_word (m := ⟨1, 5⟩) (meth := k1m5) (c := k1c5) (by decide +kernel) rfl rfl rfl (by decide +kernel)
set_option maxRecDepth 65536 in
theorem w_c24 : (Jvm.Cond.code ({ cls := "com/example/confinement/confinement/policy/VerdictForKeywordPinLaw", name := "ref", desc := "(Ljava/lang/String;)Lcom/example/confinement/confinement/policy/Verdict;" } : Jvm.MethodName) method_8_code (1 : Nat) (Option.some (Jvm.ClassFile.FieldType.object "com/example/confinement/confinement/policy/Verdict"))).before args0 about1 = true := code_word (m := ⟨1, 7⟩) (meth := k1m7) (c := k1c7) (by decide +kernel) rfl rfl rfl (by decide +kernel)
set_option maxRecDepth 65536 in
theorem w_c25 : (Jvm.Cond.code ({ cls := "java/lang/StringUTF16", name := "toBytes", desc := "([CII)[B" } : Jvm.MethodName) jdk_52_method_14_code (5 : Nat) (Option.some (Jvm.ClassFile.FieldType.array Jvm.ClassFile.FieldType.byte))).before args0 about1 = true := code_word (m := ⟨12, 5⟩) (meth := k12m5) (c := k12c5) (by decide +kernel) rfl rfl rfl (by decide +kernel)
set_option maxRecDepth 65536 in
theorem w_c26 : (Jvm.Cond.code ({ cls := "java/lang/StringUTF16", name := "newBytesFor", desc := "(I)[B" } : Jvm.MethodName) jdk_52_method_2_code (1 : Nat) (Option.some (Jvm.ClassFile.FieldType.array Jvm.ClassFile.FieldType.byte))).before args0 about1 = true := code_word (m := ⟨12, 1⟩) (meth := k12m1) (c := k12c1) (by decide +kernel) rfl rfl rfl (by decide +kernel)
set_option maxRecDepth 65536 in
theorem w_c27 : (Jvm.Cond.code ({ cls := "java/lang/StringUTF16", name := "newBytesLength", desc := "(I)I" } : Jvm.MethodName) jdk_52_method_3_code (1 : Nat) (Option.some Jvm.ClassFile.FieldType.int)).before args0 about1 = true := code_word (m := ⟨12, 2⟩) (meth := k12m2) (c := k12c2) (by decide +kernel) rfl rfl rfl (by decide +kernel)
set_option maxRecDepth 65536 in
theorem w_c28 : (Jvm.Cond.code ({ cls := "java/lang/StringUTF16", name := "putChar", desc := "([BII)V" } : Jvm.MethodName) jdk_52_method_4_code (3 : Nat) (Option.none : Option Jvm.ClassFile.FieldType)).before args0 about1 = true := code_word (m := ⟨12, 3⟩) (meth := k12m3) (c := k12c3) (by decide +kernel) rfl rfl rfl (by decide +kernel)
set_option maxRecDepth 65536 in
theorem w_c29 : (Jvm.Cond.code ({ cls := "java/lang/StringUTF16", name := "getChar", desc := "([BI)C" } : Jvm.MethodName) jdk_52_method_5_code (2 : Nat) (Option.some Jvm.ClassFile.FieldType.char)).before args0 about1 = true := code_word (m := ⟨12, 4⟩) (meth := k12m4) (c := k12c4) (by decide +kernel) rfl rfl rfl (by decide +kernel)
def codes1 : List Jvm.Cond := [Jvm.Cond.code x code maxLocals ret, Jvm.Cond.code ({ cls := "com/example/confinement/confinement/policy/VerdictForKeywordPinLaw", name := "kw", desc := "(I)Ljava/lang/String;" } : Jvm.MethodName) method_2_code (1 : Nat) (Option.some (Jvm.ClassFile.FieldType.object "java/lang/String")), Jvm.Cond.code ({ cls := "com/example/confinement/confinement/policy/VerdictForKeywordPinLaw", name := "ek", desc := "(I)Lcom/example/confinement/confinement/policy/Verdict;" } : Jvm.MethodName) method_3_code (1 : Nat) (Option.some (Jvm.ClassFile.FieldType.object "com/example/confinement/confinement/policy/Verdict")), Jvm.Cond.code ({ cls := "java/lang/String", name := "length", desc := "()I" } : Jvm.MethodName) jdk_42_method_54_code (1 : Nat) (Option.some Jvm.ClassFile.FieldType.int), Jvm.Cond.code ({ cls := "java/lang/String", name := "coder", desc := "()B" } : Jvm.MethodName) jdk_42_method_152_code (1 : Nat) (Option.some Jvm.ClassFile.FieldType.byte), Jvm.Cond.code ({ cls := "com/example/confinement/confinement/policy/VerdictForKeywordPinLaw", name := "copyKw", desc := "(Ljava/lang/String;I)[C" } : Jvm.MethodName) method_5_code (4 : Nat) (Option.some (Jvm.ClassFile.FieldType.array Jvm.ClassFile.FieldType.char)), Jvm.Cond.code ({ cls := "com/example/confinement/confinement/policy/VerdictForKeywordPinLaw", name := "alloc", desc := "(I)[C" } : Jvm.MethodName) method_4_code (1 : Nat) (Option.some (Jvm.ClassFile.FieldType.array Jvm.ClassFile.FieldType.char)), Jvm.Cond.code ({ cls := "java/lang/String", name := "charAt", desc := "(I)C" } : Jvm.MethodName) jdk_42_method_56_code (2 : Nat) (Option.some Jvm.ClassFile.FieldType.char), Jvm.Cond.code ({ cls := "java/lang/String", name := "isLatin1", desc := "()Z" } : Jvm.MethodName) jdk_42_method_154_code (1 : Nat) (Option.some Jvm.ClassFile.FieldType.boolean), Jvm.Cond.code ({ cls := "java/lang/StringLatin1", name := "charAt", desc := "([BI)C" } : Jvm.MethodName) jdk_43_method_2_code (2 : Nat) (Option.some Jvm.ClassFile.FieldType.char), Jvm.Cond.code ({ cls := "java/lang/String", name := "checkIndex", desc := "(II)V" } : Jvm.MethodName) jdk_42_method_155_code (2 : Nat) (Option.none : Option Jvm.ClassFile.FieldType), Jvm.Cond.code ({ cls := "jdk/internal/util/Preconditions", name := "checkIndex", desc := "(IILjava/util/function/BiFunction;)I" } : Jvm.MethodName) jdk_41_method_11_code (3 : Nat) (Option.some Jvm.ClassFile.FieldType.int), Jvm.Cond.code ({ cls := "java/lang/String", name := "<init>", desc := "([C)V" } : Jvm.MethodName) jdk_42_method_3_code (2 : Nat) (Option.none : Option Jvm.ClassFile.FieldType), Jvm.Cond.code ({ cls := "java/lang/String", name := "<init>", desc := "([CIILjava/lang/Void;)V" } : Jvm.MethodName) jdk_42_method_149_code (6 : Nat) (Option.none : Option Jvm.ClassFile.FieldType), Jvm.Cond.code ({ cls := "java/lang/Object", name := "<init>", desc := "()V" } : Jvm.MethodName) object_method_1_code (1 : Nat) (Option.none : Option Jvm.ClassFile.FieldType), Jvm.Cond.code ({ cls := "java/lang/StringUTF16", name := "compress", desc := "([CII)[B" } : Jvm.MethodName) jdk_52_method_16_code (6 : Nat) (Option.some (Jvm.ClassFile.FieldType.array Jvm.ClassFile.FieldType.byte)), Jvm.Cond.code ({ cls := "java/lang/StringUTF16", name := "compress", desc := "([CI[BII)I" } : Jvm.MethodName) jdk_52_method_21_code (7 : Nat) (Option.some Jvm.ClassFile.FieldType.int), Jvm.Cond.code ({ cls := "java/lang/StringUTF16", name := "coderFromArrayLen", desc := "([BI)B" } : Jvm.MethodName) jdk_52_method_15_code (2 : Nat) (Option.some Jvm.ClassFile.FieldType.byte), Jvm.Cond.code ({ cls := "com/example/confinement/confinement/policy/Verdict", name := "forKeyword", desc := "(Ljava/lang/String;)Lcom/example/confinement/confinement/policy/Verdict;" } : Jvm.MethodName) prog_19_method_5_code (6 : Nat) (Option.some (Jvm.ClassFile.FieldType.object "com/example/confinement/confinement/policy/Verdict")), Jvm.Cond.code ({ cls := "com/example/confinement/confinement/policy/Verdict", name := "values", desc := "()[Lcom/example/confinement/confinement/policy/Verdict;" } : Jvm.MethodName) prog_19_method_1_code (0 : Nat) (Option.some (Jvm.ClassFile.FieldType.array (Jvm.ClassFile.FieldType.object "com/example/confinement/confinement/policy/Verdict"))), Jvm.Cond.code ({ cls := "java/lang/String", name := "equals", desc := "(Ljava/lang/Object;)Z" } : Jvm.MethodName) jdk_42_method_66_code (3 : Nat) (Option.some Jvm.ClassFile.FieldType.boolean), Jvm.Cond.code ({ cls := "java/lang/StringLatin1", name := "equals", desc := "([B[B)Z" } : Jvm.MethodName) jdk_43_method_13_code (3 : Nat) (Option.some Jvm.ClassFile.FieldType.boolean), Jvm.Cond.code ({ cls := "com/example/confinement/confinement/policy/VerdictForKeywordPinLaw", name := "drawnChars", desc := "(JI)[C" } : Jvm.MethodName) method_7_code (4 : Nat) (Option.some (Jvm.ClassFile.FieldType.array Jvm.ClassFile.FieldType.char)), Jvm.Cond.code ({ cls := "com/example/confinement/confinement/policy/VerdictForKeywordPinLaw", name := "drawn", desc := "(JI)C" } : Jvm.MethodName) method_6_code (3 : Nat) (Option.some Jvm.ClassFile.FieldType.char), Jvm.Cond.code ({ cls := "com/example/confinement/confinement/policy/VerdictForKeywordPinLaw", name := "ref", desc := "(Ljava/lang/String;)Lcom/example/confinement/confinement/policy/Verdict;" } : Jvm.MethodName) method_8_code (1 : Nat) (Option.some (Jvm.ClassFile.FieldType.object "com/example/confinement/confinement/policy/Verdict")), Jvm.Cond.code ({ cls := "java/lang/StringUTF16", name := "toBytes", desc := "([CII)[B" } : Jvm.MethodName) jdk_52_method_14_code (5 : Nat) (Option.some (Jvm.ClassFile.FieldType.array Jvm.ClassFile.FieldType.byte)), Jvm.Cond.code ({ cls := "java/lang/StringUTF16", name := "newBytesFor", desc := "(I)[B" } : Jvm.MethodName) jdk_52_method_2_code (1 : Nat) (Option.some (Jvm.ClassFile.FieldType.array Jvm.ClassFile.FieldType.byte)), Jvm.Cond.code ({ cls := "java/lang/StringUTF16", name := "newBytesLength", desc := "(I)I" } : Jvm.MethodName) jdk_52_method_3_code (1 : Nat) (Option.some Jvm.ClassFile.FieldType.int), Jvm.Cond.code ({ cls := "java/lang/StringUTF16", name := "putChar", desc := "([BII)V" } : Jvm.MethodName) jdk_52_method_4_code (3 : Nat) (Option.none : Option Jvm.ClassFile.FieldType), Jvm.Cond.code ({ cls := "java/lang/StringUTF16", name := "getChar", desc := "([BI)C" } : Jvm.MethodName) jdk_52_method_5_code (2 : Nat) (Option.some Jvm.ClassFile.FieldType.char)]
set_option maxRecDepth 65536 in
theorem codes_eq : words1.filter isCode = codes1 := rfl
theorem w_codes : ∀ c ∈ words1.filter isCode, c.before args0 about1 = true := by
  rw [codes_eq]
  intro c hc
  simp only [codes1, List.mem_cons, List.not_mem_nil, or_false] at hc
  rcases hc with rfl | rfl | rfl | rfl | rfl | rfl | rfl | rfl | rfl | rfl | rfl | rfl | rfl | rfl | rfl | rfl | rfl | rfl | rfl | rfl | rfl | rfl | rfl | rfl | rfl | rfl | rfl | rfl | rfl | rfl
  · exact w_c0
  · exact w_c1
  · exact w_c2
  · exact w_c3
  · exact w_c4
  · exact w_c5
  · exact w_c6
  · exact w_c7
  · exact w_c8
  · exact w_c9
  · exact w_c10
  · exact w_c11
  · exact w_c12
  · exact w_c13
  · exact w_c14
  · exact w_c15
  · exact w_c16
  · exact w_c17
  · exact w_c18
  · exact w_c19
  · exact w_c20
  · exact w_c21
  · exact w_c22
  · exact w_c23
  · exact w_c24
  · exact w_c25
  · exact w_c26
  · exact w_c27
  · exact w_c28
  · exact w_c29
set_option maxRecDepth 65536 in
theorem w_t1 : (words1.take 24).all (fun c => isCode c || c.before args0 about1) = true := by decide +kernel
set_option maxRecDepth 65536 in
theorem w_t2 : ((words1.drop 24).take 24).all (fun c => isCode c || c.before args0 about1) = true := by decide +kernel
set_option maxRecDepth 65536 in
theorem w_t3 : (((words1.drop 24).drop 24).take 24).all (fun c => isCode c || c.before args0 about1) = true := by decide +kernel
set_option maxRecDepth 65536 in
theorem w_t4 : ((((words1.drop 24).drop 24).drop 24).take 24).all (fun c => isCode c || c.before args0 about1) = true := by decide +kernel
set_option maxRecDepth 65536 in
theorem w_t5 : (((((words1.drop 24).drop 24).drop 24).drop 24).take 24).all (fun c => isCode c || c.before args0 about1) = true := by decide +kernel
set_option maxRecDepth 65536 in
theorem w_t6 : ((((((words1.drop 24).drop 24).drop 24).drop 24).drop 24).take 24).all (fun c => isCode c || c.before args0 about1) = true := by decide +kernel
set_option maxRecDepth 65536 in
theorem w_t7 : ((((((words1.drop 24).drop 24).drop 24).drop 24).drop 24).drop 24).all (fun c => isCode c || c.before args0 about1) = true := by decide +kernel
theorem w_tables : (allAtoms (Jvm.Cond.code x code maxLocals ret :: tables_1)).before args0 about1 = true := by
  rw [allAtoms_all]
  show words1.all (fun c => c.before args0 about1) = true
  refine all_split ?_ w_codes
  rw [← List.take_append_drop 24 words1, List.all_append, w_t1, ← List.take_append_drop 24 (words1.drop 24), List.all_append, w_t2, ← List.take_append_drop 24 ((words1.drop 24).drop 24), List.all_append, w_t3, ← List.take_append_drop 24 (((words1.drop 24).drop 24).drop 24), List.all_append, w_t4, ← List.take_append_drop 24 ((((words1.drop 24).drop 24).drop 24).drop 24), List.all_append, w_t5, ← List.take_append_drop 24 (((((words1.drop 24).drop 24).drop 24).drop 24).drop 24), List.all_append, w_t6, w_t7]
  rfl
set_option maxRecDepth 65536 in
theorem w_rest : rest_1_c.before args0 about1 = true := by decide +kernel
set_option maxRecDepth 65536 in
theorem w_case : (Jvm.Cond.and given_1 narrow_1).before args0 about1 = true := by decide +kernel
set_option maxRecDepth 65536 in
theorem w_consts : constsHeld consts_1 about1 := Jvm.Lit.constsHeldB_iff.mp (by decide +kernel)
theorem w_applies : (headSpec (Jvm.Cond.code x code maxLocals ret :: tables_1) room_1).applies x e0.platform about1 = true :=
  (Spec.applies_iff w_frames).mpr ⟨w_running, w_runnable, w_alone, w_named, w_hears, w_ripe, w_room, w_tables⟩
theorem atStart : AtStart classFile x code maxLocals ret World_1 tables_1 room_1 Calls_1 rest_1 Pre_1 launch0 p0 e0 about1 theMethod args0 below0 :=
  ⟨lists_1, trivial, launch0.admits_env _ _ _, launch0.least_env, fairChoices_fair.cas, fairChoices_fair.clock, w_frames, w_args, w_heap, w_applies, ⟨w_consts, trivial⟩, w_rest, w_case⟩
end start1
theorem witness_1 : WitnessClaimed_1 := ⟨start1.p0, start1.e0, start1.about1, start1.theMethod, start1.args0, start1.below0, start1.atStart⟩
end Jvm.Pilot.@@N@@

import JvmDerived
import JvmDerived.Pilot.@@N@@Statement
import JvmDerived.Pilot.@@N@@Code
set_option linter.unusedVariables false
set_option linter.unusedSimpArgs false
set_option maxRecDepth 65536
set_option maxHeartbeats 40000000

namespace Jvm.OwnWP
open Sem ClassFile Op Lib Jvm.Stand Jvm.Free Jvm.LawKit Jvm.RoadKit
/-- Java's shifts and its comparison of longs -/
def ushr (x y : Int32) : Int32 := (x.toUInt32 >>> (y &&& 31).toUInt32).toInt32
def ushrL (x : Int64) (y : Int32) : Int64 := (x.toUInt64 >>> (y &&& 0x3f).toInt64.toUInt64).toInt64
def cmpL (x y : Int64) : Int32 := if x > y then 1 else if x = y then 0 else -1
/-! A body: its class, its name, bytes, max_locals, what it returns, its room. -/
abbrev Bod : Type := String × String × ByteArray × Nat × Option FieldType × Room
abbrev Bod.own (B : Bod) : String := B.1
abbrev Bod.mname (B : Bod) : String := B.2.1
abbrev Bod.bytes (B : Bod) : ByteArray := B.2.2.1
abbrev Bod.maxL (B : Bod) : Nat := B.2.2.2.1
abbrev Bod.ret (B : Bod) : Option FieldType := B.2.2.2.2.1
abbrev Bod.room (B : Bod) : Room := B.2.2.2.2.2
def Ctx (p : Program) (s : State) (m : MethodId) (meth : Method) (c : Code) (Z : State) (B : Bod) : Prop :=
  p.tables.exec = Jvm.exec ∧ Z.Warmed39 s.vm ∧ s.vm.findClass B.own = some m.cls ∧ c.code = B.bytes ∧ c.maxLocals = B.maxL ∧ meth.sig.returnType = B.ret ∧ meth.locks = false ∧ meth.name = B.mname
/-- From pc, with these locals and this stack, over the heap h, the body returns, and Q says of what it returns and of the heap. -/
def WP (l : Launch) (B : Bod) (Z : State) (n0 : Nat) (Q : Option Value → Heap → Prop) (h : Heap) (cs sl pc : Nat) (ls : Array Slot) (st : List Value) : Prop :=
  ∀ (p : Program) (e : Env) (s : State) (m : MethodId) (args : Array Value) (below : List Frame) (meth : Method) (c : Code) (T : State) (L : List Loc),
    Ctx p s m meth c Z B → Stand p l e B.room s m args below meth c T L cs sl → T.heap = h → Fr n0 L → n0 ≤ h.size →
    ∃ (U : State) (v : Option Value) (L' : List Loc), Steps p.tables e below (T.setTop (mkF m pc ls st)) U ∧ U.status = .running ∧ Ended U below (.returned v) ∧ Q v U.heap ∧ Fr n0 L' ∧ n0 ≤ U.heap.size ∧ FrameEnd s (.returned v) U L' B.room.cells B.room.slots
/-- The contract of a body: called with the arguments as over the heap h0. -/
def OMet (l : Launch) (y : MethodName) (B : Bod) (Z : State) (n0 : Nat) (as : Array Value) (h0 : Heap) (Q : Option Value → Heap → Prop) : Prop :=
  n0 ≤ h0.size → ∀ ws, MetFree l y (head1 (Cond.code y B.bytes B.maxL B.ret :: ws) B.room) (fun a U => a = as ∧ Z.Warmed39 U.vm ∧ U.heap = h0) (fun _ _ _ _ _ => True) (fun _ U o U' => ∃ v L, o = .returned v ∧ (Q v U'.heap ∧ Fr n0 L ∧ n0 ≤ U'.heap.size) ∧ FrameEnd U o U' L B.room.cells B.room.slots)
section W
variable {l : Launch} {B : Bod} {Z : State} {n0 : Nat} {Q : Option Value → Heap → Prop} {h : Heap} {cs sl pc pc' : Nat} {ls ls' : Array Slot} {st rest : List Value} {a0 : Array Value}
theorem OMet.of_wp {y : MethodName} {as : Array Value} {ls0 : Array Slot} (hpl : plainFor y = true) (h1 : y.cls = B.own) (h2 : y.name = B.mname) (hef : ∀ m, entryFrame m as B.maxL = mkF m 0 ls0 []) (H : WP l B Z n0 Q h 0 0 0 ls0 []) : OMet l y B Z n0 as h Q := by
  intro hn ws
  refine MetFree.of_bodySF hpl hisR ?_
  intro p e s m args below meth c s₁ Bd hml0 hP hK
  obtain ⟨rfl, hZ, hh⟩ := hP
  have hnm := (name_of_methodNamed Bd.named Bd.method).1
  have hown : s.vm.findClass y.cls = some m.cls := findClass_of_methodNamed Bd.named
  have X0 := Stand.of_body Bd
  have e0 : s₁.heap = h := by rw [← hh, Bd.state]; rfl
  obtain ⟨U, v, L', a1, a2, a3, a4, a5, a6, a7⟩ := H p e s m args below meth c s₁ [] ⟨Bd.exec, hZ, h1 ▸ hown, Bd.bytes, hml0, Bd.returns, Bd.notSynchronized, hnm.trans h2⟩ X0 e0 (Fr.nil n0) hn
  exact ⟨U, _, castTop (hef m) a1, a2, a3, v, L', rfl, ⟨a4, a5, a6⟩, a7⟩
theorem WP.mono {Q' : Option Value → Heap → Prop} (H : WP l B Z n0 Q' h cs sl pc ls st) (hq : ∀ v h', Q' v h' → Q v h') : WP l B Z n0 Q h cs sl pc ls st := by
  intro p e s m args below meth c T L C X hT N hn
  obtain ⟨U, v, L', a1, a2, a3, a4, r⟩ := H p e s m args below meth c T L C X hT N hn
  exact ⟨U, v, L', a1, a2, a3, hq _ _ a4, r⟩
/-- a plain step: the state stays, the frame moves -/
theorem WP.step {pc' : Nat} {ls' : Array Slot} {st' : List Value}
    (S : ∀ (p : Program) (e : Env) (s : State) (m : MethodId) (args : Array Value) (below : List Frame) (meth : Method) (c : Code) (T : State) (L : List Loc), Ctx p s m meth c Z B → Stand p l e B.room s m args below meth c T L cs sl → T.heap = h → ∀ target, Steps p.tables e below (T.setTop (mkF m pc' ls' st')) target → Steps p.tables e below (T.setTop (mkF m pc ls st)) target)
    (H : WP l B Z n0 Q h cs sl pc' ls' st') : WP l B Z n0 Q h cs sl pc ls st := by
  intro p e s m args below meth c T L C X hT N hn
  obtain ⟨U, v, L', a1, r⟩ := H p e s m args below meth c T L C X hT N hn
  exact ⟨U, v, L', S p e s m args below meth c T L C X hT _ a1, r⟩
/-- a step to another state -/
theorem WP.stepT {pc' cs' sl' : Nat} {ls' : Array Slot} {st' : List Value} {P : Heap → Prop}
    (S : ∀ (p : Program) (e : Env) (s : State) (m : MethodId) (args : Array Value) (below : List Frame) (meth : Method) (c : Code) (T : State) (L : List Loc), Ctx p s m meth c Z B → Stand p l e B.room s m args below meth c T L cs sl → T.heap = h → Fr n0 L → n0 ≤ h.size →
      ∃ (T' : State) (h' : Heap) (L' : List Loc), Stand p l e B.room s m args below meth c T' L' cs' sl' ∧ T'.heap = h' ∧ Fr n0 L' ∧ n0 ≤ h'.size ∧ P h' ∧ ∀ target, Steps p.tables e below (T'.setTop (mkF m pc' ls' st')) target → Steps p.tables e below (T.setTop (mkF m pc ls st)) target)
    (H : ∀ h', P h' → WP l B Z n0 Q h' cs' sl' pc' ls' st') : WP l B Z n0 Q h cs sl pc ls st := by
  intro p e s m args below meth c T L C X hT N hn
  obtain ⟨T', h', L1, X', e', N', n', hp, st⟩ := S p e s m args below meth c T L C X hT N hn
  obtain ⟨U, v, L', a1, r⟩ := H h' hp p e s m args below meth c T' L1 C X' e' N' n'
  exact ⟨U, v, L', st _ a1, r⟩
/-! loads, stores, constants -/
theorem WP.iloadN {k : Fin 4} {v : Int32} (hd : decode B.bytes pc = .ok (.iload_n k, 1)) (hl : ls[k.val]? = some (.val (.int v))) (hp : pc + 1 = pc') (H : WP l B Z n0 Q h cs sl pc' ls (.int v :: st)) : WP l B Z n0 Q h cs sl pc ls st := by
  subst hp; exact WP.step (fun p e s m args below meth c T L C X hT target k => XS.iloadN X.here C.1 rfl (hb C.2.2.2.1 hd) hl k) H
theorem WP.iload {k : Nat} {v : Int32} (hd : decode B.bytes pc = .ok (.iload k, 2)) (hl : ls[k]? = some (.val (.int v))) (hp : pc + 2 = pc') (H : WP l B Z n0 Q h cs sl pc' ls (.int v :: st)) : WP l B Z n0 Q h cs sl pc ls st := by
  subst hp; exact WP.step (fun p e s m args below meth c T L C X hT target k => XS.iload X.here C.1 rfl (hb C.2.2.2.1 hd) hl k) H
theorem WP.lloadN {k : Fin 4} {v : Int64} (hd : decode B.bytes pc = .ok (.lload_n k, 1)) (hl : ls[k.val]? = some (.val (.long v))) (hp : pc + 1 = pc') (H : WP l B Z n0 Q h cs sl pc' ls (.long v :: st)) : WP l B Z n0 Q h cs sl pc ls st := by
  subst hp; exact WP.step (fun p e s m args below meth c T L C X hT target k => XS.lloadN X.here C.1 rfl (hb C.2.2.2.1 hd) hl k) H
theorem WP.lload {k : Nat} {v : Int64} (hd : decode B.bytes pc = .ok (.lload k, 2)) (hl : ls[k]? = some (.val (.long v))) (hp : pc + 2 = pc') (H : WP l B Z n0 Q h cs sl pc' ls (.long v :: st)) : WP l B Z n0 Q h cs sl pc ls st := by
  subst hp; exact WP.step (fun p e s m args below meth c T L C X hT target k => XS.lload X.here C.1 rfl (hb C.2.2.2.1 hd) hl k) H
theorem WP.aloadN {k : Fin 4} {v : Value} (hd : decode B.bytes pc = .ok (.aload_n k, 1)) (hl : ls[k.val]? = some (.val v)) (hv : v.isRef = true) (hp : pc + 1 = pc') (H : WP l B Z n0 Q h cs sl pc' ls (v :: st)) : WP l B Z n0 Q h cs sl pc ls st := by
  subst hp; exact WP.step (fun p e s m args below meth c T L C X hT target k => XS.aloadN X.here C.1 rfl (hb C.2.2.2.1 hd) hl hv k) H
theorem WP.aload {k : Nat} {v : Value} (hd : decode B.bytes pc = .ok (.aload k, 2)) (hl : ls[k]? = some (.val v)) (hv : v.isRef = true) (hp : pc + 2 = pc') (H : WP l B Z n0 Q h cs sl pc' ls (v :: st)) : WP l B Z n0 Q h cs sl pc ls st := by
  subst hp; exact WP.step (fun p e s m args below meth c T L C X hT target k => XS.aload X.here C.1 rfl (hb C.2.2.2.1 hd) hl hv k) H
theorem WP.istoreN {k : Fin 4} {x : Int32} (hd : decode B.bytes pc = .ok (.istore_n k, 1)) (hp : pc + 1 = pc') (hl : storeLocals ls k.val (.int x) = some ls') (H : WP l B Z n0 Q h cs sl pc' ls' st) : WP l B Z n0 Q h cs sl pc ls (.int x :: st) := by
  subst hp; exact WP.step (fun p e s m args below meth c T L C X hT target k => XS.istoreN X.here C.1 rfl (hb C.2.2.2.1 hd) rfl hl k) H
theorem WP.istore {k : Nat} {x : Int32} (hd : decode B.bytes pc = .ok (.istore k, 2)) (hp : pc + 2 = pc') (hl : storeLocals ls k (.int x) = some ls') (H : WP l B Z n0 Q h cs sl pc' ls' st) : WP l B Z n0 Q h cs sl pc ls (.int x :: st) := by
  subst hp; exact WP.step (fun p e s m args below meth c T L C X hT target k => XS.istore X.here C.1 rfl (hb C.2.2.2.1 hd) rfl hl k) H
theorem WP.lstoreN {k : Fin 4} {x : Int64} (hd : decode B.bytes pc = .ok (.lstore_n k, 1)) (hp : pc + 1 = pc') (hl : storeLocals ls k.val (.long x) = some ls') (H : WP l B Z n0 Q h cs sl pc' ls' st) : WP l B Z n0 Q h cs sl pc ls (.long x :: st) := by
  subst hp; exact WP.step (fun p e s m args below meth c T L C X hT target k => XS.lstoreN X.here C.1 rfl (hb C.2.2.2.1 hd) rfl hl k) H
theorem WP.lstore {k : Nat} {x : Int64} (hd : decode B.bytes pc = .ok (.lstore k, 2)) (hp : pc + 2 = pc') (hl : storeLocals ls k (.long x) = some ls') (H : WP l B Z n0 Q h cs sl pc' ls' st) : WP l B Z n0 Q h cs sl pc ls (.long x :: st) := by
  subst hp; exact WP.step (fun p e s m args below meth c T L C X hT target k => XS.lstore X.here C.1 rfl (hb C.2.2.2.1 hd) rfl hl k) H
theorem WP.astoreN {k : Fin 4} {x : Value} (hd : decode B.bytes pc = .ok (.astore_n k, 1)) (hp : pc + 1 = pc') (hv : x.isRef = true) (hl : storeLocals ls k.val x = some ls') (H : WP l B Z n0 Q h cs sl pc' ls' st) : WP l B Z n0 Q h cs sl pc ls (x :: st) := by
  subst hp; exact WP.step (fun p e s m args below meth c T L C X hT target k => XS.astoreN X.here C.1 rfl (hb C.2.2.2.1 hd) rfl hv hl k) H
theorem WP.astore {k : Nat} {x : Value} (hd : decode B.bytes pc = .ok (.astore k, 2)) (hp : pc + 2 = pc') (hv : x.isRef = true) (hl : storeLocals ls k x = some ls') (H : WP l B Z n0 Q h cs sl pc' ls' st) : WP l B Z n0 Q h cs sl pc ls (x :: st) := by
  subst hp; exact WP.step (fun p e s m args below meth c T L C X hT target k => XS.astore X.here C.1 rfl (hb C.2.2.2.1 hd) rfl hv hl k) H
theorem WP.iconst {i : Int} {z : Int32} (hd : decode B.bytes pc = .ok (.iconst i, 1)) (hz : Int32.ofInt i = z) (hp : pc + 1 = pc') (H : WP l B Z n0 Q h cs sl pc' ls (.int z :: st)) : WP l B Z n0 Q h cs sl pc ls st := by
  subst hp hz; exact WP.step (fun p e s m args below meth c T L C X hT target k => XS.iconst X.here C.1 rfl (hb C.2.2.2.1 hd) k) H
theorem WP.bipush {i : Int} {z : Int32} (hd : decode B.bytes pc = .ok (.bipush i, 2)) (hz : (Int8.ofInt i).toInt32 = z) (hp : pc + 2 = pc') (H : WP l B Z n0 Q h cs sl pc' ls (.int z :: st)) : WP l B Z n0 Q h cs sl pc ls st := by
  subst hp hz; exact WP.step (fun p e s m args below meth c T L C X hT target k => XS.bipush X.here C.1 rfl (hb C.2.2.2.1 hd) k) H
theorem WP.sipush {i : Int} {z : Int32} (hd : decode B.bytes pc = .ok (.sipush i, 3)) (hz : (Int16.ofInt i).toInt32 = z) (hp : pc + 3 = pc') (H : WP l B Z n0 Q h cs sl pc' ls (.int z :: st)) : WP l B Z n0 Q h cs sl pc ls st := by
  subst hp hz; exact WP.step (fun p e s m args below meth c T L C X hT target k => XS.sipush X.here C.1 rfl (hb C.2.2.2.1 hd) k) H
theorem WP.lconst0 (hd : decode B.bytes pc = .ok (.lconst 0, 1)) (hp : pc + 1 = pc') (H : WP l B Z n0 Q h cs sl pc' ls (.long 0 :: st)) : WP l B Z n0 Q h cs sl pc ls st := by
  subst hp; exact WP.step (fun p e s m args below meth c T L C X hT target k => XS.lconst X.here C.1 rfl (hb C.2.2.2.1 hd) k) H
theorem WP.lconst1 (hd : decode B.bytes pc = .ok (.lconst 1, 1)) (hp : pc + 1 = pc') (H : WP l B Z n0 Q h cs sl pc' ls (.long 1 :: st)) : WP l B Z n0 Q h cs sl pc ls st := by
  subst hp; exact WP.step (fun p e s m args below meth c T L C X hT target k => XS.lconst X.here C.1 rfl (hb C.2.2.2.1 hd) k) H
theorem WP.aconstNull (hd : decode B.bytes pc = .ok (.aconst_null, 1)) (hp : pc + 1 = pc') (H : WP l B Z n0 Q h cs sl pc' ls (.null :: st)) : WP l B Z n0 Q h cs sl pc ls st := by
  subst hp; exact WP.step (fun p e s m args below meth c T L C X hT target k => XS.aconstNull X.here C.1 rfl (hb C.2.2.2.1 hd) k) H
theorem WP.ldcI {i : Nat} {z : Int32} (hd : decode B.bytes pc = .ok (.ldc i, 2)) (w : (Cond.constant B.own i z).before a0 Z = true) (hp : pc + 2 = pc') (H : WP l B Z n0 Q h cs sl pc' ls (.int z :: st)) : WP l B Z n0 Q h cs sl pc ls st := by
  subst hp; exact WP.step (fun p e s m args below meth c T L C X hT target k => X.ldcInt C.1 C.2.2.1 (mvT C.2.1 w) (g := mkF m pc ls st) rfl (hb C.2.2.2.1 hd) _ k) H
theorem WP.ldcwI {i : Nat} {z : Int32} (hd : decode B.bytes pc = .ok (.ldc_w i, 3)) (w : (Cond.constant B.own i z).before a0 Z = true) (hp : pc + 3 = pc') (H : WP l B Z n0 Q h cs sl pc' ls (.int z :: st)) : WP l B Z n0 Q h cs sl pc ls st := by
  subst hp; exact WP.step (fun p e s m args below meth c T L C X hT target k => X.ldcwInt C.1 C.2.2.1 (mvT C.2.1 w) (g := mkF m pc ls st) rfl (hb C.2.2.2.1 hd) _ k) H
theorem WP.ldc2J {i : Nat} {z : Int64} (hd : decode B.bytes pc = .ok (.ldc2_w i, 3)) (w : (Cond.constantLong B.own i z).before a0 Z = true) (hp : pc + 3 = pc') (H : WP l B Z n0 Q h cs sl pc' ls (.long z :: st)) : WP l B Z n0 Q h cs sl pc ls st := by
  subst hp; exact WP.step (fun p e s m args below meth c T L C X hT target k => X.ldc2Long C.1 C.2.2.1 (mvT C.2.1 w) (g := mkF m pc ls st) rfl (hb C.2.2.2.1 hd) _ k) H
theorem WP.iinc {k : Nat} {cst : Int} {x y : Int32} (hd : decode B.bytes pc = .ok (.iinc k cst, 3)) (hp : pc + 3 = pc') (hl : ls[k]? = some (.val (.int x))) (hy : x + Int32.ofInt cst = y) (hl' : storeLocals ls k (.int y) = some ls') (H : WP l B Z n0 Q h cs sl pc' ls' st) : WP l B Z n0 Q h cs sl pc ls st := by
  subst hp hy; exact WP.step (fun p e s m args below meth c T L C X hT target k => XS.iinc X.here C.1 rfl (hb C.2.2.2.1 hd) hl hl' k) H
/-! the stack -/
theorem WP.dup {x : Value} (hd : decode B.bytes pc = .ok (.dup, 1)) (hc : x.category = 1) (hp : pc + 1 = pc') (H : WP l B Z n0 Q h cs sl pc' ls (x :: x :: st)) : WP l B Z n0 Q h cs sl pc ls (x :: st) := by
  subst hp; exact WP.step (fun p e s m args below meth c T L C X hT target k => XS.dup X.here C.1 rfl (hb C.2.2.2.1 hd) rfl hc k) H
theorem WP.pop {x : Value} (hd : decode B.bytes pc = .ok (.pop, 1)) (hc : x.category = 1) (hp : pc + 1 = pc') (H : WP l B Z n0 Q h cs sl pc' ls st) : WP l B Z n0 Q h cs sl pc ls (x :: st) := by
  subst hp; exact WP.step (fun p e s m args below meth c T L C X hT target k => XS.pop X.here C.1 rfl (hb C.2.2.2.1 hd) rfl hc k) H
theorem WP.dupX1 {x y : Value} (hd : decode B.bytes pc = .ok (.dup_x1, 1)) (hc : x.category = 1) (hc' : y.category = 1) (hp : pc + 1 = pc') (H : WP l B Z n0 Q h cs sl pc' ls (x :: y :: x :: st)) : WP l B Z n0 Q h cs sl pc ls (x :: y :: st) := by
  subst hp; exact WP.step (fun p e s m args below meth c T L C X hT target k => XS.dupX1 X.here C.1 rfl (hb C.2.2.2.1 hd) rfl hc hc' k) H
theorem WP.dup2 {x y : Value} (hd : decode B.bytes pc = .ok (.dup2, 1)) (hc : x.category = 1) (hc' : y.category = 1) (hp : pc + 1 = pc') (H : WP l B Z n0 Q h cs sl pc' ls (x :: y :: x :: y :: st)) : WP l B Z n0 Q h cs sl pc ls (x :: y :: st) := by
  subst hp; exact WP.step (fun p e s m args below meth c T L C X hT target k => Jvm.Free.XT.dup2 X.here C.1 rfl (hb C.2.2.2.1 hd) rfl hc hc' k) H
/-! arithmetic -/
theorem WP.iadd {x : Int32} {y : Int32} (hd : decode B.bytes pc = .ok (.iadd, 1)) (hp : pc + 1 = pc') (H : WP l B Z n0 Q h cs sl pc' ls (.int (x + y) :: st)) : WP l B Z n0 Q h cs sl pc ls (.int y :: .int x :: st) := by
  subst hp; exact WP.step (fun p e s m args below meth c T L C X hT target k => XS.iadd X.here C.1 rfl (hb C.2.2.2.1 hd) rfl k) H
theorem WP.isub {x : Int32} {y : Int32} (hd : decode B.bytes pc = .ok (.isub, 1)) (hp : pc + 1 = pc') (H : WP l B Z n0 Q h cs sl pc' ls (.int (x - y) :: st)) : WP l B Z n0 Q h cs sl pc ls (.int y :: .int x :: st) := by
  subst hp; exact WP.step (fun p e s m args below meth c T L C X hT target k => XS.isub X.here C.1 rfl (hb C.2.2.2.1 hd) rfl k) H
theorem WP.imul {x : Int32} {y : Int32} (hd : decode B.bytes pc = .ok (.imul, 1)) (hp : pc + 1 = pc') (H : WP l B Z n0 Q h cs sl pc' ls (.int (x * y) :: st)) : WP l B Z n0 Q h cs sl pc ls (.int y :: .int x :: st) := by
  subst hp; exact WP.step (fun p e s m args below meth c T L C X hT target k => XS.imul X.here C.1 rfl (hb C.2.2.2.1 hd) rfl k) H
theorem WP.iand {x : Int32} {y : Int32} (hd : decode B.bytes pc = .ok (.iand, 1)) (hp : pc + 1 = pc') (H : WP l B Z n0 Q h cs sl pc' ls (.int (x &&& y) :: st)) : WP l B Z n0 Q h cs sl pc ls (.int y :: .int x :: st) := by
  subst hp; exact WP.step (fun p e s m args below meth c T L C X hT target k => XS.iand X.here C.1 rfl (hb C.2.2.2.1 hd) rfl k) H
theorem WP.ior {x : Int32} {y : Int32} (hd : decode B.bytes pc = .ok (.ior, 1)) (hp : pc + 1 = pc') (H : WP l B Z n0 Q h cs sl pc' ls (.int (x ||| y) :: st)) : WP l B Z n0 Q h cs sl pc ls (.int y :: .int x :: st) := by
  subst hp; exact WP.step (fun p e s m args below meth c T L C X hT target k => XS.ior X.here C.1 rfl (hb C.2.2.2.1 hd) rfl k) H
theorem WP.ixor {x : Int32} {y : Int32} (hd : decode B.bytes pc = .ok (.ixor, 1)) (hp : pc + 1 = pc') (H : WP l B Z n0 Q h cs sl pc' ls (.int (x ^^^ y) :: st)) : WP l B Z n0 Q h cs sl pc ls (.int y :: .int x :: st) := by
  subst hp; exact WP.step (fun p e s m args below meth c T L C X hT target k => XS.ixor X.here C.1 rfl (hb C.2.2.2.1 hd) rfl k) H
theorem WP.ladd {x : Int64} {y : Int64} (hd : decode B.bytes pc = .ok (.ladd, 1)) (hp : pc + 1 = pc') (H : WP l B Z n0 Q h cs sl pc' ls (.long (x + y) :: st)) : WP l B Z n0 Q h cs sl pc ls (.long y :: .long x :: st) := by
  subst hp; exact WP.step (fun p e s m args below meth c T L C X hT target k => XS.ladd X.here C.1 rfl (hb C.2.2.2.1 hd) rfl k) H
theorem WP.lsub {x : Int64} {y : Int64} (hd : decode B.bytes pc = .ok (.lsub, 1)) (hp : pc + 1 = pc') (H : WP l B Z n0 Q h cs sl pc' ls (.long (x - y) :: st)) : WP l B Z n0 Q h cs sl pc ls (.long y :: .long x :: st) := by
  subst hp; exact WP.step (fun p e s m args below meth c T L C X hT target k => XS.lsub X.here C.1 rfl (hb C.2.2.2.1 hd) rfl k) H
theorem WP.lmul {x : Int64} {y : Int64} (hd : decode B.bytes pc = .ok (.lmul, 1)) (hp : pc + 1 = pc') (H : WP l B Z n0 Q h cs sl pc' ls (.long (x * y) :: st)) : WP l B Z n0 Q h cs sl pc ls (.long y :: .long x :: st) := by
  subst hp; exact WP.step (fun p e s m args below meth c T L C X hT target k => XS.lmul X.here C.1 rfl (hb C.2.2.2.1 hd) rfl k) H
theorem WP.land {x : Int64} {y : Int64} (hd : decode B.bytes pc = .ok (.land, 1)) (hp : pc + 1 = pc') (H : WP l B Z n0 Q h cs sl pc' ls (.long (x &&& y) :: st)) : WP l B Z n0 Q h cs sl pc ls (.long y :: .long x :: st) := by
  subst hp; exact WP.step (fun p e s m args below meth c T L C X hT target k => XS.land X.here C.1 rfl (hb C.2.2.2.1 hd) rfl k) H
theorem WP.lor {x : Int64} {y : Int64} (hd : decode B.bytes pc = .ok (.lor, 1)) (hp : pc + 1 = pc') (H : WP l B Z n0 Q h cs sl pc' ls (.long (x ||| y) :: st)) : WP l B Z n0 Q h cs sl pc ls (.long y :: .long x :: st) := by
  subst hp; exact WP.step (fun p e s m args below meth c T L C X hT target k => XS.lor X.here C.1 rfl (hb C.2.2.2.1 hd) rfl k) H
theorem WP.lxor {x : Int64} {y : Int64} (hd : decode B.bytes pc = .ok (.lxor, 1)) (hp : pc + 1 = pc') (H : WP l B Z n0 Q h cs sl pc' ls (.long (x ^^^ y) :: st)) : WP l B Z n0 Q h cs sl pc ls (.long y :: .long x :: st) := by
  subst hp; exact WP.step (fun p e s m args below meth c T L C X hT target k => XS.lxor X.here C.1 rfl (hb C.2.2.2.1 hd) rfl k) H
theorem WP.ishl {x : Int32} {y : Int32} (hd : decode B.bytes pc = .ok (.ishl, 1)) (hp : pc + 1 = pc') (H : WP l B Z n0 Q h cs sl pc' ls (.int (x <<< (y &&& 31)) :: st)) : WP l B Z n0 Q h cs sl pc ls (.int y :: .int x :: st) := by
  subst hp; exact WP.step (fun p e s m args below meth c T L C X hT target k => XS.ishl X.here C.1 rfl (hb C.2.2.2.1 hd) rfl k) H
theorem WP.ishr {x : Int32} {y : Int32} (hd : decode B.bytes pc = .ok (.ishr, 1)) (hp : pc + 1 = pc') (H : WP l B Z n0 Q h cs sl pc' ls (.int (x >>> (y &&& 31)) :: st)) : WP l B Z n0 Q h cs sl pc ls (.int y :: .int x :: st) := by
  subst hp; exact WP.step (fun p e s m args below meth c T L C X hT target k => XS.ishr X.here C.1 rfl (hb C.2.2.2.1 hd) rfl k) H
theorem WP.iushr {x : Int32} {y : Int32} (hd : decode B.bytes pc = .ok (.iushr, 1)) (hp : pc + 1 = pc') (H : WP l B Z n0 Q h cs sl pc' ls (.int (ushr x y) :: st)) : WP l B Z n0 Q h cs sl pc ls (.int y :: .int x :: st) := by
  subst hp; exact WP.step (fun p e s m args below meth c T L C X hT target k => XS.iushr X.here C.1 rfl (hb C.2.2.2.1 hd) rfl k) H
theorem WP.lshl {x : Int64} {y : Int32} (hd : decode B.bytes pc = .ok (.lshl, 1)) (hp : pc + 1 = pc') (H : WP l B Z n0 Q h cs sl pc' ls (.long (x <<< (y &&& 63).toInt64) :: st)) : WP l B Z n0 Q h cs sl pc ls (.int y :: .long x :: st) := by
  subst hp; exact WP.step (fun p e s m args below meth c T L C X hT target k => XS.lshl X.here C.1 rfl (hb C.2.2.2.1 hd) rfl k) H
theorem WP.lshr {x : Int64} {y : Int32} (hd : decode B.bytes pc = .ok (.lshr, 1)) (hp : pc + 1 = pc') (H : WP l B Z n0 Q h cs sl pc' ls (.long (x >>> (y &&& 63).toInt64) :: st)) : WP l B Z n0 Q h cs sl pc ls (.int y :: .long x :: st) := by
  subst hp; exact WP.step (fun p e s m args below meth c T L C X hT target k => XS.lshr X.here C.1 rfl (hb C.2.2.2.1 hd) rfl k) H
theorem WP.lushr {x : Int64} {y : Int32} (hd : decode B.bytes pc = .ok (.lushr, 1)) (hp : pc + 1 = pc') (H : WP l B Z n0 Q h cs sl pc' ls (.long (ushrL x y) :: st)) : WP l B Z n0 Q h cs sl pc ls (.int y :: .long x :: st) := by
  subst hp; exact WP.step (fun p e s m args below meth c T L C X hT target k => XS.lushr X.here C.1 rfl (hb C.2.2.2.1 hd) rfl k) H
theorem WP.ineg {x : Int32}  (hd : decode B.bytes pc = .ok (.ineg, 1)) (hp : pc + 1 = pc') (H : WP l B Z n0 Q h cs sl pc' ls (.int (-x) :: st)) : WP l B Z n0 Q h cs sl pc ls (.int x :: st) := by
  subst hp; exact WP.step (fun p e s m args below meth c T L C X hT target k => XS.ineg X.here C.1 rfl (hb C.2.2.2.1 hd) rfl k) H
theorem WP.lneg {x : Int64}  (hd : decode B.bytes pc = .ok (.lneg, 1)) (hp : pc + 1 = pc') (H : WP l B Z n0 Q h cs sl pc' ls (.long (-x) :: st)) : WP l B Z n0 Q h cs sl pc ls (.long x :: st) := by
  subst hp; exact WP.step (fun p e s m args below meth c T L C X hT target k => XS.lneg X.here C.1 rfl (hb C.2.2.2.1 hd) rfl k) H
theorem WP.i2l {x : Int32}  (hd : decode B.bytes pc = .ok (.i2l, 1)) (hp : pc + 1 = pc') (H : WP l B Z n0 Q h cs sl pc' ls (.long x.toInt64 :: st)) : WP l B Z n0 Q h cs sl pc ls (.int x :: st) := by
  subst hp; exact WP.step (fun p e s m args below meth c T L C X hT target k => XS.i2l X.here C.1 rfl (hb C.2.2.2.1 hd) rfl k) H
theorem WP.l2i {x : Int64}  (hd : decode B.bytes pc = .ok (.l2i, 1)) (hp : pc + 1 = pc') (H : WP l B Z n0 Q h cs sl pc' ls (.int x.toInt32 :: st)) : WP l B Z n0 Q h cs sl pc ls (.long x :: st) := by
  subst hp; exact WP.step (fun p e s m args below meth c T L C X hT target k => XS.l2i X.here C.1 rfl (hb C.2.2.2.1 hd) rfl k) H
theorem WP.i2b {x : Int32}  (hd : decode B.bytes pc = .ok (.i2b, 1)) (hp : pc + 1 = pc') (H : WP l B Z n0 Q h cs sl pc' ls (.int x.toInt8.toInt32 :: st)) : WP l B Z n0 Q h cs sl pc ls (.int x :: st) := by
  subst hp; exact WP.step (fun p e s m args below meth c T L C X hT target k => XS.i2b X.here C.1 rfl (hb C.2.2.2.1 hd) rfl k) H
theorem WP.i2s {x : Int32}  (hd : decode B.bytes pc = .ok (.i2s, 1)) (hp : pc + 1 = pc') (H : WP l B Z n0 Q h cs sl pc' ls (.int x.toInt16.toInt32 :: st)) : WP l B Z n0 Q h cs sl pc ls (.int x :: st) := by
  subst hp; exact WP.step (fun p e s m args below meth c T L C X hT target k => XS.i2s X.here C.1 rfl (hb C.2.2.2.1 hd) rfl k) H
theorem WP.i2c {x : Int32}  (hd : decode B.bytes pc = .ok (.i2c, 1)) (hp : pc + 1 = pc') (H : WP l B Z n0 Q h cs sl pc' ls (.int x.toUInt32.toUInt16.toUInt32.toInt32 :: st)) : WP l B Z n0 Q h cs sl pc ls (.int x :: st) := by
  subst hp; exact WP.step (fun p e s m args below meth c T L C X hT target k => XS.i2c X.here C.1 rfl (hb C.2.2.2.1 hd) rfl k) H
/-! division (never by zero here), branches -/
theorem WP.irem {x y : Int32} (hd : decode B.bytes pc = .ok (.irem, 1)) (hy : y ≠ 0) (hp : pc + 1 = pc') (H : WP l B Z n0 Q h cs sl pc' ls (.int (x % y) :: st)) : WP l B Z n0 Q h cs sl pc ls (.int y :: .int x :: st) := by
  subst hp; exact WP.step (fun p e s m args below meth c T L C X hT target k => iremM X C.1 rfl (hb C.2.2.2.1 hd) rfl hy k) H
theorem WP.idiv {x y : Int32} (hd : decode B.bytes pc = .ok (.idiv, 1)) (hy : y ≠ 0) (hp : pc + 1 = pc') (H : WP l B Z n0 Q h cs sl pc' ls (.int (x / y) :: st)) : WP l B Z n0 Q h cs sl pc ls (.int y :: .int x :: st) := by
  subst hp; exact WP.step (fun p e s m args below meth c T L C X hT target k => XS.idiv X.here C.1 rfl (hb C.2.2.2.1 hd) rfl hy k) H
theorem WP.lrem {x y : Int64} (hd : decode B.bytes pc = .ok (.lrem, 1)) (hy : y ≠ 0) (hp : pc + 1 = pc') (H : WP l B Z n0 Q h cs sl pc' ls (.long (x - x / y * y) :: st)) : WP l B Z n0 Q h cs sl pc ls (.long y :: .long x :: st) := by
  subst hp; exact WP.step (fun p e s m args below meth c T L C X hT target k => XS.lrem X.here C.1 rfl (hb C.2.2.2.1 hd) rfl hy k) H
theorem WP.goto {o : Int} (hd : decode B.bytes pc = .ok (.goto o, 3)) (ht : (pc : Int) + o = (pc' : Int)) (H : WP l B Z n0 Q h cs sl pc' ls st) : WP l B Z n0 Q h cs sl pc ls st :=
  WP.step (fun p e s m args below meth c T L C X hT target k => XS.goto X.here C.1 rfl (pc0 := pc) (pc' := pc') rfl (hb C.2.2.2.1 hd) (by omega) (by omega) k) H
theorem own_holds (cd : ClassFile.Cond) (x y : Int32) : if_icmp.holds cd x y = match cd with | .eq => decide (x.toInt = y.toInt) | .ne => decide (x.toInt ≠ y.toInt) | .lt => decide (x.toInt < y.toInt) | .ge => decide (y.toInt ≤ x.toInt) | .gt => decide (y.toInt < x.toInt) | .le => decide (x.toInt ≤ y.toInt) := by
  have q : x = y ↔ x.toInt = y.toInt := ⟨fun h => by rw [h], Int32.toInt_inj.mp⟩
  by_cases e : x = y
  · subst e
    cases cd <;> simp [if_icmp.holds]
  · have e' : ¬ x.toInt = y.toInt := fun h => e (q.mpr h)
    cases cd <;> simp [if_icmp.holds, e, e', Int32.lt_iff_toInt_lt, Int32.le_iff_toInt_le]
theorem own_cmpL (cd : ClassFile.Cond) (x y : Int64) : if_icmp.holds cd (cmpL x y) 0 = match cd with | .eq => decide (x.toInt = y.toInt) | .ne => decide (x.toInt ≠ y.toInt) | .lt => decide (x.toInt < y.toInt) | .ge => decide (y.toInt ≤ x.toInt) | .gt => decide (y.toInt < x.toInt) | .le => decide (x.toInt ≤ y.toInt) := by
  have q : x = y ↔ x.toInt = y.toInt := ⟨fun h => by rw [h], Int64.toInt_inj.mp⟩
  rw [own_holds]
  simp only [cmpL, GT.gt, Int64.lt_iff_toInt_lt, q]
  have e1 : (1 : Int32).toInt = 1 := rfl
  have e0 : (0 : Int32).toInt = 0 := rfl
  have em : (-1 : Int32).toInt = -1 := rfl
  by_cases c1 : y.toInt < x.toInt
  · simp only [c1, if_true, e1, e0]
    cases cd <;> simp <;> omega
  · by_cases c2 : x.toInt = y.toInt
    · simp only [c2, Int.lt_irrefl, if_false, if_true, e0]
      cases cd <;> simp
    · simp only [c1, c2, if_false, em, e0]
      cases cd <;> simp <;> omega
theorem WP.icmp {cd : ClassFile.Cond} {x y : Int32} {o : Int} {tgt : Nat} (hd : decode B.bytes pc = .ok (.if_icmp cd o, 3)) (ht : (pc : Int) + o = (tgt : Int)) (hp : pc + 3 = pc') (HY : if_icmp.holds cd x y = true → WP l B Z n0 Q h cs sl tgt ls st) (HN : if_icmp.holds cd x y = false → WP l B Z n0 Q h cs sl pc' ls st) : WP l B Z n0 Q h cs sl pc ls (.int y :: .int x :: st) := by
  subst hp
  cases hc : if_icmp.holds cd x y
  · exact WP.step (fun p e s m args below meth c T L C X hT target k => XS.icmpNo X.here C.1 rfl (hb C.2.2.2.1 hd) rfl hc k) (HN hc)
  · exact WP.step (fun p e s m args below meth c T L C X hT target k => XS.icmpYes X.here C.1 rfl (pc0 := pc) (pc' := tgt) rfl (hb C.2.2.2.1 hd) rfl hc (by omega) (by omega) k) (HY hc)
theorem WP.ifc {cd : ClassFile.Cond} {x : Int32} {o : Int} {tgt : Nat} (hd : decode B.bytes pc = .ok (.ifCond cd o, 3)) (ht : (pc : Int) + o = (tgt : Int)) (hp : pc + 3 = pc') (HY : if_icmp.holds cd x 0 = true → WP l B Z n0 Q h cs sl tgt ls st) (HN : if_icmp.holds cd x 0 = false → WP l B Z n0 Q h cs sl pc' ls st) : WP l B Z n0 Q h cs sl pc ls (.int x :: st) := by
  subst hp
  cases hc : if_icmp.holds cd x 0
  · exact WP.step (fun p e s m args below meth c T L C X hT target k => XS.ifNo X.here C.1 rfl (hb C.2.2.2.1 hd) rfl ((if0 _ _).trans hc) k) (HN hc)
  · exact WP.step (fun p e s m args below meth c T L C X hT target k => XS.ifYes X.here C.1 rfl (pc0 := pc) (pc' := tgt) rfl (hb C.2.2.2.1 hd) rfl ((if0 _ _).trans hc) (by omega) (by omega) k) (HY hc)
theorem WP.lcmp {x y : Int64} (hd : decode B.bytes pc = .ok (.lcmp, 1)) (hp : pc + 1 = pc') (H : WP l B Z n0 Q h cs sl pc' ls (.int (cmpL x y) :: st)) : WP l B Z n0 Q h cs sl pc ls (.long y :: .long x :: st) := by
  subst hp; exact WP.step (fun p e s m args below meth c T L C X hT target k => XS.lcmp X.here C.1 rfl (hb C.2.2.2.1 hd) rfl k) H
theorem WP.icmpEq {x y : Int32} {o : Int} {tgt : Nat} (hd : decode B.bytes pc = .ok (.if_icmp .eq o, 3)) (ht : (pc : Int) + o = (tgt : Int)) (hp : pc + 3 = pc') (HY : x.toInt = y.toInt → WP l B Z n0 Q h cs sl tgt ls st) (HN : x.toInt ≠ y.toInt → WP l B Z n0 Q h cs sl pc' ls st) : WP l B Z n0 Q h cs sl pc ls (.int y :: .int x :: st) :=
  WP.icmp hd ht hp (fun q => HY (by rw [own_holds] at q; simpa using q)) (fun q => HN (by rw [own_holds] at q; simpa using q))
theorem WP.ifEq {x : Int32} {o : Int} {tgt : Nat} (hd : decode B.bytes pc = .ok (.ifCond .eq o, 3)) (ht : (pc : Int) + o = (tgt : Int)) (hp : pc + 3 = pc') (HY : x.toInt = 0 → WP l B Z n0 Q h cs sl tgt ls st) (HN : x.toInt ≠ 0 → WP l B Z n0 Q h cs sl pc' ls st) : WP l B Z n0 Q h cs sl pc ls (.int x :: st) :=
  WP.ifc hd ht hp (fun q => HY (by rw [own_holds] at q; simpa using q)) (fun q => HN (by rw [own_holds] at q; simpa using q))
theorem WP.lcmpEq {x y : Int64} {o : Int} {tgt pc1 : Nat} (hd : decode B.bytes pc = .ok (.lcmp, 1)) (h1 : pc + 1 = pc1) (hd1 : decode B.bytes pc1 = .ok (.ifCond .eq o, 3)) (ht : (pc1 : Int) + o = (tgt : Int)) (hp : pc1 + 3 = pc') (HY : x.toInt = y.toInt → WP l B Z n0 Q h cs sl tgt ls st) (HN : x.toInt ≠ y.toInt → WP l B Z n0 Q h cs sl pc' ls st) : WP l B Z n0 Q h cs sl pc ls (.long y :: .long x :: st) :=
  WP.lcmp hd h1 (WP.ifc hd1 ht hp (fun q => HY (by rw [own_cmpL] at q; simpa using q)) (fun q => HN (by rw [own_cmpL] at q; simpa using q)))
theorem WP.icmpNe {x y : Int32} {o : Int} {tgt : Nat} (hd : decode B.bytes pc = .ok (.if_icmp .ne o, 3)) (ht : (pc : Int) + o = (tgt : Int)) (hp : pc + 3 = pc') (HY : x.toInt ≠ y.toInt → WP l B Z n0 Q h cs sl tgt ls st) (HN : x.toInt = y.toInt → WP l B Z n0 Q h cs sl pc' ls st) : WP l B Z n0 Q h cs sl pc ls (.int y :: .int x :: st) :=
  WP.icmp hd ht hp (fun q => HY (by rw [own_holds] at q; simpa using q)) (fun q => HN (by rw [own_holds] at q; simpa using q))
theorem WP.ifNe {x : Int32} {o : Int} {tgt : Nat} (hd : decode B.bytes pc = .ok (.ifCond .ne o, 3)) (ht : (pc : Int) + o = (tgt : Int)) (hp : pc + 3 = pc') (HY : x.toInt ≠ 0 → WP l B Z n0 Q h cs sl tgt ls st) (HN : x.toInt = 0 → WP l B Z n0 Q h cs sl pc' ls st) : WP l B Z n0 Q h cs sl pc ls (.int x :: st) :=
  WP.ifc hd ht hp (fun q => HY (by rw [own_holds] at q; simpa using q)) (fun q => HN (by rw [own_holds] at q; simpa using q))
theorem WP.lcmpNe {x y : Int64} {o : Int} {tgt pc1 : Nat} (hd : decode B.bytes pc = .ok (.lcmp, 1)) (h1 : pc + 1 = pc1) (hd1 : decode B.bytes pc1 = .ok (.ifCond .ne o, 3)) (ht : (pc1 : Int) + o = (tgt : Int)) (hp : pc1 + 3 = pc') (HY : x.toInt ≠ y.toInt → WP l B Z n0 Q h cs sl tgt ls st) (HN : x.toInt = y.toInt → WP l B Z n0 Q h cs sl pc' ls st) : WP l B Z n0 Q h cs sl pc ls (.long y :: .long x :: st) :=
  WP.lcmp hd h1 (WP.ifc hd1 ht hp (fun q => HY (by rw [own_cmpL] at q; simpa using q)) (fun q => HN (by rw [own_cmpL] at q; simpa using q)))
theorem WP.icmpLt {x y : Int32} {o : Int} {tgt : Nat} (hd : decode B.bytes pc = .ok (.if_icmp .lt o, 3)) (ht : (pc : Int) + o = (tgt : Int)) (hp : pc + 3 = pc') (HY : x.toInt < y.toInt → WP l B Z n0 Q h cs sl tgt ls st) (HN : y.toInt ≤ x.toInt → WP l B Z n0 Q h cs sl pc' ls st) : WP l B Z n0 Q h cs sl pc ls (.int y :: .int x :: st) :=
  WP.icmp hd ht hp (fun q => HY (by rw [own_holds] at q; simpa using q)) (fun q => HN (by rw [own_holds] at q; simpa using q))
theorem WP.ifLt {x : Int32} {o : Int} {tgt : Nat} (hd : decode B.bytes pc = .ok (.ifCond .lt o, 3)) (ht : (pc : Int) + o = (tgt : Int)) (hp : pc + 3 = pc') (HY : x.toInt < 0 → WP l B Z n0 Q h cs sl tgt ls st) (HN : 0 ≤ x.toInt → WP l B Z n0 Q h cs sl pc' ls st) : WP l B Z n0 Q h cs sl pc ls (.int x :: st) :=
  WP.ifc hd ht hp (fun q => HY (by rw [own_holds] at q; simpa using q)) (fun q => HN (by rw [own_holds] at q; simpa using q))
theorem WP.lcmpLt {x y : Int64} {o : Int} {tgt pc1 : Nat} (hd : decode B.bytes pc = .ok (.lcmp, 1)) (h1 : pc + 1 = pc1) (hd1 : decode B.bytes pc1 = .ok (.ifCond .lt o, 3)) (ht : (pc1 : Int) + o = (tgt : Int)) (hp : pc1 + 3 = pc') (HY : x.toInt < y.toInt → WP l B Z n0 Q h cs sl tgt ls st) (HN : y.toInt ≤ x.toInt → WP l B Z n0 Q h cs sl pc' ls st) : WP l B Z n0 Q h cs sl pc ls (.long y :: .long x :: st) :=
  WP.lcmp hd h1 (WP.ifc hd1 ht hp (fun q => HY (by rw [own_cmpL] at q; simpa using q)) (fun q => HN (by rw [own_cmpL] at q; simpa using q)))
theorem WP.icmpGe {x y : Int32} {o : Int} {tgt : Nat} (hd : decode B.bytes pc = .ok (.if_icmp .ge o, 3)) (ht : (pc : Int) + o = (tgt : Int)) (hp : pc + 3 = pc') (HY : y.toInt ≤ x.toInt → WP l B Z n0 Q h cs sl tgt ls st) (HN : x.toInt < y.toInt → WP l B Z n0 Q h cs sl pc' ls st) : WP l B Z n0 Q h cs sl pc ls (.int y :: .int x :: st) :=
  WP.icmp hd ht hp (fun q => HY (by rw [own_holds] at q; simpa using q)) (fun q => HN (by rw [own_holds] at q; simpa using q))
theorem WP.ifGe {x : Int32} {o : Int} {tgt : Nat} (hd : decode B.bytes pc = .ok (.ifCond .ge o, 3)) (ht : (pc : Int) + o = (tgt : Int)) (hp : pc + 3 = pc') (HY : 0 ≤ x.toInt → WP l B Z n0 Q h cs sl tgt ls st) (HN : x.toInt < 0 → WP l B Z n0 Q h cs sl pc' ls st) : WP l B Z n0 Q h cs sl pc ls (.int x :: st) :=
  WP.ifc hd ht hp (fun q => HY (by rw [own_holds] at q; simpa using q)) (fun q => HN (by rw [own_holds] at q; simpa using q))
theorem WP.lcmpGe {x y : Int64} {o : Int} {tgt pc1 : Nat} (hd : decode B.bytes pc = .ok (.lcmp, 1)) (h1 : pc + 1 = pc1) (hd1 : decode B.bytes pc1 = .ok (.ifCond .ge o, 3)) (ht : (pc1 : Int) + o = (tgt : Int)) (hp : pc1 + 3 = pc') (HY : y.toInt ≤ x.toInt → WP l B Z n0 Q h cs sl tgt ls st) (HN : x.toInt < y.toInt → WP l B Z n0 Q h cs sl pc' ls st) : WP l B Z n0 Q h cs sl pc ls (.long y :: .long x :: st) :=
  WP.lcmp hd h1 (WP.ifc hd1 ht hp (fun q => HY (by rw [own_cmpL] at q; simpa using q)) (fun q => HN (by rw [own_cmpL] at q; simpa using q)))
theorem WP.icmpGt {x y : Int32} {o : Int} {tgt : Nat} (hd : decode B.bytes pc = .ok (.if_icmp .gt o, 3)) (ht : (pc : Int) + o = (tgt : Int)) (hp : pc + 3 = pc') (HY : y.toInt < x.toInt → WP l B Z n0 Q h cs sl tgt ls st) (HN : x.toInt ≤ y.toInt → WP l B Z n0 Q h cs sl pc' ls st) : WP l B Z n0 Q h cs sl pc ls (.int y :: .int x :: st) :=
  WP.icmp hd ht hp (fun q => HY (by rw [own_holds] at q; simpa using q)) (fun q => HN (by rw [own_holds] at q; simpa using q))
theorem WP.ifGt {x : Int32} {o : Int} {tgt : Nat} (hd : decode B.bytes pc = .ok (.ifCond .gt o, 3)) (ht : (pc : Int) + o = (tgt : Int)) (hp : pc + 3 = pc') (HY : 0 < x.toInt → WP l B Z n0 Q h cs sl tgt ls st) (HN : x.toInt ≤ 0 → WP l B Z n0 Q h cs sl pc' ls st) : WP l B Z n0 Q h cs sl pc ls (.int x :: st) :=
  WP.ifc hd ht hp (fun q => HY (by rw [own_holds] at q; simpa using q)) (fun q => HN (by rw [own_holds] at q; simpa using q))
theorem WP.lcmpGt {x y : Int64} {o : Int} {tgt pc1 : Nat} (hd : decode B.bytes pc = .ok (.lcmp, 1)) (h1 : pc + 1 = pc1) (hd1 : decode B.bytes pc1 = .ok (.ifCond .gt o, 3)) (ht : (pc1 : Int) + o = (tgt : Int)) (hp : pc1 + 3 = pc') (HY : y.toInt < x.toInt → WP l B Z n0 Q h cs sl tgt ls st) (HN : x.toInt ≤ y.toInt → WP l B Z n0 Q h cs sl pc' ls st) : WP l B Z n0 Q h cs sl pc ls (.long y :: .long x :: st) :=
  WP.lcmp hd h1 (WP.ifc hd1 ht hp (fun q => HY (by rw [own_cmpL] at q; simpa using q)) (fun q => HN (by rw [own_cmpL] at q; simpa using q)))
theorem WP.icmpLe {x y : Int32} {o : Int} {tgt : Nat} (hd : decode B.bytes pc = .ok (.if_icmp .le o, 3)) (ht : (pc : Int) + o = (tgt : Int)) (hp : pc + 3 = pc') (HY : x.toInt ≤ y.toInt → WP l B Z n0 Q h cs sl tgt ls st) (HN : y.toInt < x.toInt → WP l B Z n0 Q h cs sl pc' ls st) : WP l B Z n0 Q h cs sl pc ls (.int y :: .int x :: st) :=
  WP.icmp hd ht hp (fun q => HY (by rw [own_holds] at q; simpa using q)) (fun q => HN (by rw [own_holds] at q; simpa using q))
theorem WP.ifLe {x : Int32} {o : Int} {tgt : Nat} (hd : decode B.bytes pc = .ok (.ifCond .le o, 3)) (ht : (pc : Int) + o = (tgt : Int)) (hp : pc + 3 = pc') (HY : x.toInt ≤ 0 → WP l B Z n0 Q h cs sl tgt ls st) (HN : 0 < x.toInt → WP l B Z n0 Q h cs sl pc' ls st) : WP l B Z n0 Q h cs sl pc ls (.int x :: st) :=
  WP.ifc hd ht hp (fun q => HY (by rw [own_holds] at q; simpa using q)) (fun q => HN (by rw [own_holds] at q; simpa using q))
theorem WP.lcmpLe {x y : Int64} {o : Int} {tgt pc1 : Nat} (hd : decode B.bytes pc = .ok (.lcmp, 1)) (h1 : pc + 1 = pc1) (hd1 : decode B.bytes pc1 = .ok (.ifCond .le o, 3)) (ht : (pc1 : Int) + o = (tgt : Int)) (hp : pc1 + 3 = pc') (HY : x.toInt ≤ y.toInt → WP l B Z n0 Q h cs sl tgt ls st) (HN : y.toInt < x.toInt → WP l B Z n0 Q h cs sl pc' ls st) : WP l B Z n0 Q h cs sl pc ls (.long y :: .long x :: st) :=
  WP.lcmp hd h1 (WP.ifc hd1 ht hp (fun q => HY (by rw [own_cmpL] at q; simpa using q)) (fun q => HN (by rw [own_cmpL] at q; simpa using q)))
theorem WP.ifnullY {o : Int} (hd : decode B.bytes pc = .ok (.ifnull o, 3)) (ht : (pc : Int) + o = (pc' : Int)) (H : WP l B Z n0 Q h cs sl pc' ls st) : WP l B Z n0 Q h cs sl pc ls (.null :: st) :=
  WP.step (fun p e s m args below meth c T L C X hT target k => XS.ifnullYes X.here C.1 rfl (pc0 := pc) (pc' := pc') rfl (hb C.2.2.2.1 hd) rfl (by omega) (by omega) k) H
theorem WP.ifnullN {o : Int} {a : Addr} (hd : decode B.bytes pc = .ok (.ifnull o, 3)) (hp : pc + 3 = pc') (H : WP l B Z n0 Q h cs sl pc' ls st) : WP l B Z n0 Q h cs sl pc ls (.ref a :: st) := by
  subst hp; exact WP.step (fun p e s m args below meth c T L C X hT target k => XS.ifnullNo X.here C.1 rfl (hb C.2.2.2.1 hd) rfl k) H
theorem WP.ifnonnullN {o : Int} (hd : decode B.bytes pc = .ok (.ifnonnull o, 3)) (hp : pc + 3 = pc') (H : WP l B Z n0 Q h cs sl pc' ls st) : WP l B Z n0 Q h cs sl pc ls (.null :: st) := by
  subst hp; exact WP.step (fun p e s m args below meth c T L C X hT target k => XS.ifnonnullNo X.here C.1 rfl (hb C.2.2.2.1 hd) rfl k) H
theorem WP.ifnonnullY {o : Int} {a : Addr} (hd : decode B.bytes pc = .ok (.ifnonnull o, 3)) (ht : (pc : Int) + o = (pc' : Int)) (H : WP l B Z n0 Q h cs sl pc' ls st) : WP l B Z n0 Q h cs sl pc ls (.ref a :: st) :=
  WP.step (fun p e s m args below meth c T L C X hT target k => XS.ifnonnullYes X.here C.1 rfl (pc0 := pc) (pc' := pc') rfl (hb C.2.2.2.1 hd) rfl (by omega) (by omega) k) H
theorem WP.acmpEq {x y : Value} {o : Int} {tgt : Nat} (hd : decode B.bytes pc = .ok (.if_acmp .eq o, 3)) (ht : (pc : Int) + o = (tgt : Int)) (hp : pc + 3 = pc') (h1 : x.isRef = true) (h2 : y.isRef = true) (HY : x = y → WP l B Z n0 Q h cs sl tgt ls st) (HN : x ≠ y → WP l B Z n0 Q h cs sl pc' ls st) : WP l B Z n0 Q h cs sl pc ls (y :: x :: st) := by
  subst hp
  have e1 : ((pc : Int) + o).toNat = tgt := by omega
  by_cases q : x = y
  · exact WP.step (fun p e s m args below meth c T L C X hT target k => Jvm.RoadKit.acmp (g := mkF m pc ls (y :: x :: st)) X C.1 rfl h1 h2 (pc0 := pc) (pc' := tgt) (same := true) rfl (hb C.2.2.2.1 hd) rfl (by simp [q]) (by omega) (by simp [acV, e1]) k) (HY q)
  · exact WP.step (fun p e s m args below meth c T L C X hT target k => Jvm.RoadKit.acmp (g := mkF m pc ls (y :: x :: st)) X C.1 rfl h1 h2 (pc0 := pc) (pc' := pc + 3) (same := false) rfl (hb C.2.2.2.1 hd) rfl (by simp [q]) (by omega) (by simp [acV]) k) (HN q)
theorem WP.acmpNe {x y : Value} {o : Int} {tgt : Nat} (hd : decode B.bytes pc = .ok (.if_acmp .ne o, 3)) (ht : (pc : Int) + o = (tgt : Int)) (hp : pc + 3 = pc') (h1 : x.isRef = true) (h2 : y.isRef = true) (HY : x ≠ y → WP l B Z n0 Q h cs sl tgt ls st) (HN : x = y → WP l B Z n0 Q h cs sl pc' ls st) : WP l B Z n0 Q h cs sl pc ls (y :: x :: st) := by
  subst hp
  have e1 : ((pc : Int) + o).toNat = tgt := by omega
  by_cases q : x = y
  · exact WP.step (fun p e s m args below meth c T L C X hT target k => Jvm.RoadKit.acmp (g := mkF m pc ls (y :: x :: st)) X C.1 rfl h1 h2 (pc0 := pc) (pc' := pc + 3) (same := true) rfl (hb C.2.2.2.1 hd) rfl (by simp [q]) (by omega) (by simp [acV]) k) (HN q)
  · exact WP.step (fun p e s m args below meth c T L C X hT target k => Jvm.RoadKit.acmp (g := mkF m pc ls (y :: x :: st)) X C.1 rfl h1 h2 (pc0 := pc) (pc' := tgt) (same := false) rfl (hb C.2.2.2.1 hd) rfl (by simp [q]) (by omega) (by simp [acV, e1]) k) (HY q)
/-! returns -/
theorem WP.ret0 (hd : decode B.bytes pc = .ok (.return_, 1)) (hr : B.ret = none) (hc : cs ≤ B.room.cells) (hs : sl ≤ B.room.slots) (hQ : Q none h) : WP l B Z n0 Q h cs sl pc ls [] := by
  intro p e s m args below meth c T L C X hT N hn
  obtain ⟨hx, hZ, hown, hby, hml, hret, hlk, hnm⟩ := C
  obtain ⟨fs, hrr, hrun, hended, hW, hsame⟩ := X.leave (v := none) (fun _ => rfl) hlk
  have hh : (T.setFrames fs).heap = h := hT
  exact ⟨T.setFrames fs, none, L, X.returnOut hx (hret.trans hr) (hb hby hd) hrr, hrun, hended, by rw [hh]; exact hQ, N, by rw [hh]; exact hn, ⟨_, rfl⟩, hW, hsame.mono hc hs⟩
theorem WP.retI {z : Int32} (hd : decode B.bytes pc = .ok (.ireturn, 1)) (hr : B.ret = some .int) (hc : cs ≤ B.room.cells) (hs : sl ≤ B.room.slots) (hQ : Q (some (.int z)) h) : WP l B Z n0 Q h cs sl pc ls (.int z :: st) := by
  intro p e s m args below meth c T L C X hT N hn
  obtain ⟨hx, hZ, hown, hby, hml, hret, hlk, hnm⟩ := C
  obtain ⟨fs, hrr, hrun, hended, hW, hsame⟩ := X.leave (v := some (.int z)) (fun q => by rw [hret, hr] at q; cases q) hlk
  have hh : (T.setFrames fs).heap = h := hT
  exact ⟨T.setFrames fs, _, L, retOut X hx (hret.trans hr) rfl (Or.inl ⟨rfl, Or.inl rfl, z, rfl⟩) (hb hby hd) hrr, hrun, hended, by rw [hh]; exact hQ, N, by rw [hh]; exact hn, ⟨_, rfl⟩, hW, hsame.mono hc hs⟩
theorem WP.retN {z : Int32} {t : FieldType} (hd : decode B.bytes pc = .ok (.ireturn, 1)) (hr : B.ret = some t) (ht : t = .boolean ∨ t = .byte ∨ t = .char ∨ t = .short) (hc : cs ≤ B.room.cells) (hs : sl ≤ B.room.slots) (hQ : Q (some (.int (nar t z))) h) : WP l B Z n0 Q h cs sl pc ls (.int z :: st) := by
  intro p e s m args below meth c T L C X hT N hn
  obtain ⟨hx, hZ, hown, hby, hml, hret, hlk, hnm⟩ := C
  obtain ⟨fs, hrr, hrun, hended, hW, hsame⟩ := X.leave (v := some (.int (nar t z))) (fun q => by rw [hret, hr] at q; cases q) hlk
  have hh : (T.setFrames fs).heap = h := hT
  exact ⟨T.setFrames fs, _, L, Jvm.RoadKit.retN X hx (hret.trans hr) ht (hb hby hd) hrr, hrun, hended, by rw [hh]; exact hQ, N, by rw [hh]; exact hn, ⟨_, rfl⟩, hW, hsame.mono hc hs⟩
theorem WP.retJ {z : Int64} (hd : decode B.bytes pc = .ok (.lreturn, 1)) (hr : B.ret = some .long) (hc : cs ≤ B.room.cells) (hs : sl ≤ B.room.slots) (hQ : Q (some (.long z)) h) : WP l B Z n0 Q h cs sl pc ls (.long z :: st) := by
  intro p e s m args below meth c T L C X hT N hn
  obtain ⟨hx, hZ, hown, hby, hml, hret, hlk, hnm⟩ := C
  obtain ⟨fs, hrr, hrun, hended, hW, hsame⟩ := X.leave (v := some (.long z)) (fun q => by rw [hret, hr] at q; cases q) hlk
  have hh : (T.setFrames fs).heap = h := hT
  exact ⟨T.setFrames fs, _, L, retOut X hx (hret.trans hr) rfl (Or.inr (Or.inl ⟨rfl, rfl, z, rfl⟩)) (hb hby hd) hrr, hrun, hended, by rw [hh]; exact hQ, N, by rw [hh]; exact hn, ⟨_, rfl⟩, hW, hsame.mono hc hs⟩
theorem WP.retA {z : Value} {t : FieldType} (hd : decode B.bytes pc = .ok (.areturn, 1)) (hr : B.ret = some t) (ht : t.isReference = true) (hz : z.isRef = true) (hc : cs ≤ B.room.cells) (hs : sl ≤ B.room.slots) (hQ : Q (some z) h) : WP l B Z n0 Q h cs sl pc ls (z :: st) := by
  intro p e s m args below meth c T L C X hT N hn
  obtain ⟨hx, hZ, hown, hby, hml, hret, hlk, hnm⟩ := C
  obtain ⟨fs, hrr, hrun, hended, hW, hsame⟩ := X.leave (v := some z) (fun q => by rw [hret, hr] at q; cases q) hlk
  have hh : (T.setFrames fs).heap = h := hT
  have hnw : narrow t z = z := by rcases ref_cases hz with rfl | ⟨a, rfl⟩ <;> cases t <;> rfl
  exact ⟨T.setFrames fs, _, L, retOut X hx (hret.trans hr) hnw (Or.inr (Or.inr (Or.inr (Or.inr ⟨rfl, ht, hz⟩)))) (hb hby hd) hrr, hrun, hended, by rw [hh]; exact hQ, N, by rw [hh]; exact hn, ⟨_, rfl⟩, hW, hsame.mono hc hs⟩
/-! calls -/
theorem WP.callS {y : MethodName} {By : Bod} {as : List Value} {idx : Nat} {Qy : Option Value → Heap → Prop} {ps : List FieldType} {r : Option FieldType}
    (hd : decode B.bytes pc = .ok (.invokestatic idx, 3)) (w1 : (Cond.methodLink B.own idx y).before a0 Z = true) (w2 : (Cond.static y).before a0 Z = true) (w3 : (Cond.initialized y.cls).before a0 Z = true) (w4 : (Cond.code y By.bytes By.maxL By.ret).before a0 Z = true)
    (hy : y.cls ≠ "java/lang/invoke/MethodHandle" ∧ y.cls ≠ "java/lang/invoke/VarHandle") (hM : OMet l y By Z n0 as.toArray h Qy) (hpd : parseMethodDescriptor y.desc = some ⟨ps, r⟩) (hlen : as.length = ps.length) (hst : st = as.reverse ++ rest) (hls : ls.size = B.maxL)
    (hfr : By.room.frames + 1 ≤ B.room.frames) (hlo : (rest.map fun v => v.category).sum + (By.maxL + 11) + By.room.locals ≤ B.room.locals) (hc : cs + By.room.cells ≤ B.room.cells) (hs : sl + By.room.slots ≤ B.room.slots) (hp : pc + 3 = pc')
    (H : ∀ v h', Qy v h' → WP l B Z n0 Q h' (cs + By.room.cells) (sl + By.room.slots) pc' ls (v.toList ++ rest)) : WP l B Z n0 Q h cs sl pc ls st := by
  subst hp
  intro p e s m args below meth c T L C X hT N hn
  obtain ⟨hx, hZ, hown, hby, hml, hret, hlk, hnm⟩ := C
  obtain ⟨v, _, ⟨T1, L1, k1, n1⟩, -, X1, ⟨Lc, hQ, l1, y1, z1⟩, stp⟩ := Jvm.LawKit.callS X hx hown (mvT hZ w1) (mvT hZ w2) (mvT hZ w3) (mvT hZ w4) hy (backOf (W := (rest.map fun v => v.category).sum) (Q := fun v h' L => Qy v h' ∧ Fr n0 L ∧ n0 ≤ h'.size) (hM hn []) hZ w4 w3 hfr hlo) (g := mkF m pc ls st) rfl (by rw [hml]; exact hls) (argsL := as) (rest := rest) (lenOf hpd hlen) hst (by show 2 * 0 + _ ≤ _; omega) (hb hby hd) (fun _ _ => ⟨rfl, hT, hc, hs⟩)
  dsimp only [Pt.U, Pt.locs, Pt.cells, Pt.slots] at X1 l1 y1 z1 stp hQ
  subst l1 y1 z1
  obtain ⟨U, v', L', a1, rr⟩ := H v T1.heap hQ.1 p e s m args below meth c T1 _ ⟨hx, hZ, hown, hby, hml, hret, hlk, hnm⟩ X1 rfl (N.app hQ.2.1) hQ.2.2
  exact ⟨U, v', L', stp _ a1, rr⟩
theorem WP.callI {y : MethodName} {By : Bod} {as : List Value} {a : Addr} {idx : Nat} {Qy : Option Value → Heap → Prop} {ps : List FieldType} {r : Option FieldType}
    (hd : decode B.bytes pc = .ok (.invokespecial idx, 3)) (w1 : (Cond.methodLink B.own idx y).before a0 Z = true) (w2 : (Cond.instanceMethod y).before a0 Z = true) (w3 : (Cond.initialized y.cls).before a0 Z = true) (w4 : (Cond.code y By.bytes By.maxL By.ret).before a0 Z = true) (hyn : y.name = "<init>") (hyr : By.ret = none)
    (hy : y.cls ≠ "java/lang/invoke/MethodHandle" ∧ y.cls ≠ "java/lang/invoke/VarHandle") (hM : OMet l y By Z n0 (.ref a :: as).toArray h Qy) (hpd : parseMethodDescriptor y.desc = some ⟨ps, r⟩) (hlen : as.length = ps.length) (hst : st = as.reverse ++ .ref a :: rest) (hls : ls.size = B.maxL)
    (hfr : By.room.frames + 1 ≤ B.room.frames) (hlo : (rest.map fun v => v.category).sum + (By.maxL + 11) + By.room.locals ≤ B.room.locals) (hc : cs + By.room.cells ≤ B.room.cells) (hs : sl + By.room.slots ≤ B.room.slots) (hp : pc + 3 = pc')
    (H : ∀ v h', Qy v h' → WP l B Z n0 Q h' (cs + By.room.cells) (sl + By.room.slots) pc' ls (v.toList ++ rest)) : WP l B Z n0 Q h cs sl pc ls st := by
  subst hp
  intro p e s m args below meth c T L C X hT N hn
  obtain ⟨hx, hZ, hown, hby, hml, hret, hlk, hnm⟩ := C
  obtain ⟨v, _, ⟨T1, L1, k1, n1⟩, -, X1, ⟨Lc, hQ, l1, y1, z1⟩, stp⟩ := X.specialBack hx (y := y) hyn hown (mvT hZ w1) (mvT hZ w2) (mvT hZ (hyr ▸ w4)) hy (backOf (W := (rest.map fun v => v.category).sum) (Q := fun v h' L => Qy v h' ∧ Fr n0 L ∧ n0 ≤ h'.size) (hM hn []) hZ w4 w3 hfr hlo) (g := mkF m pc ls st) rfl (by rw [hml]; exact hls) (Steps.refl _) (a := a) (argsL := as) (rest := rest) (lenOf hpd hlen) hst (by show 2 * 0 + _ ≤ _; omega) (hb hby hd) (fun _ _ => ⟨rfl, hT, hc, hs⟩)
  dsimp only [Pt.U, Pt.locs, Pt.cells, Pt.slots] at X1 l1 y1 z1 stp hQ
  subst l1 y1 z1
  obtain ⟨U, v', L', a1, rr⟩ := H v T1.heap hQ.1 p e s m args below meth c T1 _ ⟨hx, hZ, hown, hby, hml, hret, hlk, hnm⟩ X1 rfl (N.app hQ.2.1) hQ.2.2
  exact ⟨U, v', L', stp.trans a1, rr⟩
theorem WP.callV {y z : MethodName} {By : Bod} {Cl : String} {as : List Value} {a : Addr} {idx : Nat} {Qy : Option Value → Heap → Prop} {ps : List FieldType} {r : Option FieldType}
    (hd : decode B.bytes pc = .ok (.invokevirtual idx, 3)) (w1 : (Cond.methodLink B.own idx y).before a0 Z = true) (w2 : (Cond.declares y).before a0 Z = true) (w5 : (Cond.selects Cl y z).before a0 Z = true) (w6 : (Cond.instanceMethod z).before a0 Z = true) (w3 : (Cond.initialized z.cls).before a0 Z = true) (w4 : (Cond.code z By.bytes By.maxL By.ret).before a0 Z = true) (hyz : y = z) (hcl : Cl = y.cls)
    (hy : y.cls ≠ "java/lang/invoke/MethodHandle" ∧ y.cls ≠ "java/lang/invoke/VarHandle") (E : Exa Z h a Cl) (hM : OMet l z By Z n0 (.ref a :: as).toArray h Qy) (hpd : parseMethodDescriptor y.desc = some ⟨ps, r⟩) (hlen : as.length = ps.length) (hst : st = as.reverse ++ .ref a :: rest) (hls : ls.size = B.maxL)
    (hfr : By.room.frames + 1 ≤ B.room.frames) (hlo : (rest.map fun v => v.category).sum + (By.maxL + 11) + By.room.locals ≤ B.room.locals) (hc : cs + By.room.cells ≤ B.room.cells) (hs : sl + By.room.slots ≤ B.room.slots) (hp : pc + 3 = pc')
    (H : ∀ v h', Qy v h' → WP l B Z n0 Q h' (cs + By.room.cells) (sl + By.room.slots) pc' ls (v.toList ++ rest)) : WP l B Z n0 Q h cs sl pc ls st := by
  subst hp hyz hcl
  intro p e s m args below meth c T L C X hT N hn
  obtain ⟨hx, hZ, hown, hby, hml, hret, hlk, hnm⟩ := C
  obtain ⟨cq, kq, qa, qb, qc⟩ := isOf (T := T) hZ hT E
  obtain ⟨v, _, ⟨T1, L1, k1, n1⟩, -, X1, ⟨Lc, hQ, l1, y1, z1⟩, stp⟩ := X.virtualBack hx (y := y) (z := y) hown (mvT hZ w1) (mvT hZ w2) (notFace_of_selects (args := #[]) (mvT hZ w5)) (mvT hZ w5) (mvT hZ w6) hy (backOf (W := (rest.map fun v => v.category).sum) (Q := fun v h' L => Qy v h' ∧ Fr n0 L ∧ n0 ≤ h'.size) (hM hn []) hZ w4 w3 hfr hlo) qa qc (g := mkF m pc ls st) rfl (by rw [hml]; exact hls) (Steps.refl _) (argsL := as) (rest := rest) (lenOf hpd hlen) hst (by show 2 * 0 + _ ≤ _; omega) (hb hby hd) (fun _ _ => ⟨rfl, hT, hc, hs⟩)
  dsimp only [Pt.U, Pt.locs, Pt.cells, Pt.slots] at X1 l1 y1 z1 stp hQ
  subst l1 y1 z1
  obtain ⟨U, v', L', a1, rr⟩ := H v T1.heap hQ.1 p e s m args below meth c T1 _ ⟨hx, hZ, hown, hby, hml, hret, hlk, hnm⟩ X1 rfl (N.app hQ.2.1) hQ.2.2
  exact ⟨U, v', L', stp.trans a1, rr⟩
/-- Object.<init> -/
theorem WP.initO {a : Addr} {idx : Nat} (hd : decode B.bytes pc = .ok (.invokespecial idx, 3)) (w1 : (Cond.methodLink B.own idx Lib.objectInit).before a0 Z = true) (w2 : (Cond.instanceMethod Lib.objectInit).before a0 Z = true) (w3 : (Cond.code Lib.objectInit ⟨#[0xb1]⟩ 1 none).before a0 Z = true) (hls : ls.size = B.maxL) (hf : 1 ≤ B.room.frames) (hl : (rest.map fun v => v.category).sum + 12 ≤ B.room.locals) (hp : pc + 3 = pc')
    (H : WP l B Z n0 Q h cs sl pc' ls rest) : WP l B Z n0 Q h cs sl pc ls (.ref a :: rest) := by
  subst hp
  intro p e s m args below meth c T L C X hT N hn
  obtain ⟨hx, hZ, hown, hby, hml, hret, hlk, hnm⟩ := C
  obtain ⟨T1, X1, e1, stp⟩ := Jvm.RoadKit.initO X hx hZ hown w1 w2 w3 hT (g := mkF m pc ls (.ref a :: rest)) rfl (by rw [hml]; exact hls) rfl (hb hby hd) hf (W := (rest.map fun v => v.category).sum) (by show 2 * 0 + _ ≤ _; omega) hl
  obtain ⟨U, v', L', a1, rr⟩ := H p e s m args below meth c T1 _ ⟨hx, hZ, hown, hby, hml, hret, hlk, hnm⟩ X1 e1 N hn
  exact ⟨U, v', L', stp _ a1, rr⟩
/-! arrays: what one holds, place by place -/
def Av (Z : State) (h : Heap) (a : Addr) (ty : FieldType) (vs : List Value) : Prop := ∃ c : Cell, Arr Z h a c ty ∧ c.slots.toList = vs ∧ vs.length < 2 ^ 31
variable {a b : Addr} {ty : FieldType} {vs : List Value} {h' : Heap} {ws : List Addr}
theorem Av.lt (A : Av Z h a ty vs) : a < h.size := by obtain ⟨c, q, -⟩ := A; exact q.lt
theorem Av.keep (A : Av Z h a ty vs) (K : Keep h h' ws) (q : a ∉ ws) : Av Z h' a ty vs := by obtain ⟨c, A, r⟩ := A; exact ⟨c, ⟨K.2.1 a c A.1 q, A.2⟩, r⟩
theorem Av.len (A : Av Z h a ty vs) : vs.length < 2 ^ 31 := by obtain ⟨c, A, r, q⟩ := A; exact q
theorem own_idx {j : Int32} {i : Nat} (hj : j.toInt = (i : Int)) : j.toNatClampNeg = i ∧ ¬ j < 0 := by
  refine ⟨by simp [Int32.toNatClampNeg, hj], fun q => ?_⟩
  rw [Int32.lt_iff_toInt_lt] at q
  have : (0 : Int32).toInt = 0 := rfl
  omega
theorem Av.place {j : Int32} {i : Nat} {v : Value} {c : Cell} (e : c.slots.toList = vs) (hj : j.toInt = (i : Int)) (hv : vs[i]? = some v) : ¬ (j < 0 ∨ c.slots.size ≤ j.toNatClampNeg) ∧ c.slots[j.toNatClampNeg]? = some v := by
  obtain ⟨q1, q2⟩ := own_idx hj
  subst e
  rw [q1]
  have q3 : c.slots[i]? = some v := by simpa using hv
  refine ⟨fun q => q.elim q2 fun q => ?_, q3⟩
  have := (Array.getElem?_eq_some_iff.mp q3).1
  omega
theorem Keep.of_ext (E : Ext h h') : Keep h h' [] := (Keep.refl h []).ext E
theorem Av.set {i : Nat} {v : Value} {sl : Nat} (A : Av Z h a ty vs) (W : Wr h h' a sl v) (e : sl = i) : Av Z h' a ty (vs.set i v) := by
  subst e
  obtain ⟨c, A, r, q⟩ := A
  refine ⟨_, A.same W, ?_, by simpa using q⟩
  simp [Cell.setSlot, r]
theorem WP.newarr {aty : ArrayType} {n : Int32} {k : Nat} (hd : decode B.bytes pc = .ok (.newarray aty, 2)) (w : (Cond.arrayClass (newarray.typeOf aty)).before a0 Z = true) (hn : n.toInt = (k : Int)) (cap : Nat) (hcap : k ≤ cap) (hbig : cap * 8 ≤ 536870912) (hc : cs + 1 ≤ B.room.cells) (hs : sl + cap ≤ B.room.slots) (hp : pc + 2 = pc')
    (H : ∀ b h', b = h.size → n0 ≤ b → Keep h h' [] → Av Z h' b (newarray.typeOf aty) (List.replicate k (defaultValue (newarray.typeOf aty))) → WP l B Z n0 Q h' (cs + 1) (sl + cap) pc' ls (.ref b :: st)) : WP l B Z n0 Q h cs sl pc ls (.int n :: st) := by
  subst hp
  obtain ⟨q1, q2⟩ := own_idx hn
  refine WP.stepT (P := fun h' => Keep h h' [] ∧ n0 ≤ h.size ∧ Av Z h' h.size (newarray.typeOf aty) (List.replicate k (defaultValue (newarray.typeOf aty)))) ?_ (fun h' q => H h.size h' rfl q.2.1 q.1 q.2.2)
  intro p e s m args below meth c T L C X hT N hn'
  obtain ⟨T1, h1, cA, X1, e1, E1, A1, stp⟩ := newP X C.1 C.2.1 w hT (g := mkF m pc ls (.int n :: st)) rfl (hb C.2.2.2.1 hd) rfl q2 (cap := cap) (by omega) hbig hc hs
  refine ⟨T1, h1, L, X1, e1, N, Nat.le_trans hn' E1.1, ⟨Keep.of_ext E1, hn', _, A1, ?_, ?_⟩, stp⟩
  · simp [newA, q1]
  · simp; omega
theorem WP.alen {k : Int32} (hd : decode B.bytes pc = .ok (.arraylength, 1)) (A : Av Z h a ty vs) (hk : k.toInt = (vs.length : Int)) (hp : pc + 1 = pc') (H : WP l B Z n0 Q h cs sl pc' ls (.int k :: st)) : WP l B Z n0 Q h cs sl pc ls (.ref a :: st) := by
  subst hp
  obtain ⟨cl, A, r, q⟩ := A
  have e1 : cl.slots.size.toInt32 = k := by
    have e2 : cl.slots.size = vs.length := by rw [← r]; simp
    apply Int32.toInt_inj.mp
    rw [e2, hk]
    exact Int32.toInt_ofNat_of_lt q
  exact WP.step (fun p e s m args below meth c T L C X hT target k' => X.arraylength C.1 (by rw [hT]; exact A.1) (State.isArrayOf_alike C.2.1.alike A.2.1) (g := mkF m pc ls (.ref a :: st)) rfl rfl (hb C.2.2.2.1 hd) _ (by rw [e1]; exact k')) H
theorem WP.iaload {j : Int32} {x : Int32} (i : Nat) (hd : decode B.bytes pc = .ok (.iaload, 1)) (A : Av Z h a .int vs) (hj : j.toInt = (i : Int)) (hv : vs[i]? = some (.int x)) (hp : pc + 1 = pc') (H : WP l B Z n0 Q h cs sl pc' ls (.int x :: st)) : WP l B Z n0 Q h cs sl pc ls (.int j :: .ref a :: st) := by
  subst hp
  obtain ⟨cl, A, r, q⟩ := A
  obtain ⟨g1, g2⟩ := Av.place r hj hv
  exact WP.step (fun p e s m args below meth c T L C X hT target k' => X.iaload C.1 (by rw [hT]; exact A.1) (State.isArrayOf_alike C.2.1.alike A.2.1) A.2.2 g1 g2 (g := mkF m pc ls (.int j :: .ref a :: st)) rfl rfl (hb C.2.2.2.1 hd) _ k') H
theorem WP.laload {j : Int32} {x : Int64} (i : Nat) (hd : decode B.bytes pc = .ok (.laload, 1)) (A : Av Z h a .long vs) (hj : j.toInt = (i : Int)) (hv : vs[i]? = some (.long x)) (hp : pc + 1 = pc') (H : WP l B Z n0 Q h cs sl pc' ls (.long x :: st)) : WP l B Z n0 Q h cs sl pc ls (.int j :: .ref a :: st) := by
  subst hp
  obtain ⟨cl, A, r, q⟩ := A
  obtain ⟨g1, g2⟩ := Av.place r hj hv
  exact WP.step (fun p e s m args below meth c T L C X hT target k' => X.laload C.1 (by rw [hT]; exact A.1) (State.isArrayOf_alike C.2.1.alike A.2.1) A.2.2 g1 g2 (g := mkF m pc ls (.int j :: .ref a :: st)) rfl rfl (hb C.2.2.2.1 hd) _ k') H
theorem WP.caload {j : Int32} {x : Int32} (i : Nat) (hd : decode B.bytes pc = .ok (.caload, 1)) (A : Av Z h a .char vs) (hj : j.toInt = (i : Int)) (hv : vs[i]? = some (.int x)) (hp : pc + 1 = pc') (H : WP l B Z n0 Q h cs sl pc' ls (.int x :: st)) : WP l B Z n0 Q h cs sl pc ls (.int j :: .ref a :: st) := by
  subst hp
  obtain ⟨cl, A, r, q⟩ := A
  obtain ⟨g1, g2⟩ := Av.place r hj hv
  exact WP.step (fun p e s m args below meth c T L C X hT target k' => X.caload C.1 (by rw [hT]; exact A.1) (State.isArrayOf_alike C.2.1.alike A.2.1) A.2.2 g1 g2 (g := mkF m pc ls (.int j :: .ref a :: st)) rfl rfl (hb C.2.2.2.1 hd) _ k') H
theorem WP.baloadB {j : Int32} {x : Int32} (i : Nat) (hd : decode B.bytes pc = .ok (.baload, 1)) (A : Av Z h a .byte vs) (hj : j.toInt = (i : Int)) (hv : vs[i]? = some (.int x)) (hp : pc + 1 = pc') (H : WP l B Z n0 Q h cs sl pc' ls (.int x :: st)) : WP l B Z n0 Q h cs sl pc ls (.int j :: .ref a :: st) := by
  subst hp
  obtain ⟨cl, A, r, q⟩ := A
  obtain ⟨g1, g2⟩ := Av.place r hj hv
  exact WP.step (fun p e s m args below meth c T L C X hT target k' => X.baloadBytes C.1 (by rw [hT]; exact A.1) (State.isArrayOf_alike C.2.1.alike A.2.1) A.2.2 g1 g2 (g := mkF m pc ls (.int j :: .ref a :: st)) rfl rfl (hb C.2.2.2.1 hd) _ k') H
theorem WP.baloadZ {j : Int32} {x : Int32} (i : Nat) (hd : decode B.bytes pc = .ok (.baload, 1)) (A : Av Z h a .boolean vs) (hj : j.toInt = (i : Int)) (hv : vs[i]? = some (.int x)) (hp : pc + 1 = pc') (H : WP l B Z n0 Q h cs sl pc' ls (.int x :: st)) : WP l B Z n0 Q h cs sl pc ls (.int j :: .ref a :: st) := by
  subst hp
  obtain ⟨cl, A, r, q⟩ := A
  obtain ⟨g1, g2⟩ := Av.place r hj hv
  exact WP.step (fun p e s m args below meth c T L C X hT target k' => X.baloadBooleans C.1 (by rw [hT]; exact A.1) (State.isArrayOf_alike C.2.1.alike A.2.1) A.2.2 g1 g2 (g := mkF m pc ls (.int j :: .ref a :: st)) rfl rfl (hb C.2.2.2.1 hd) _ k') H
theorem WP.aaload {j : Int32} {x : Value} (i : Nat) (hd : decode B.bytes pc = .ok (.aaload, 1)) (A : Av Z h a ty vs) (hty : ty.isReference = true) (hj : j.toInt = (i : Int)) (hv : vs[i]? = some x) (hp : pc + 1 = pc') (H : WP l B Z n0 Q h cs sl pc' ls (x :: st)) : WP l B Z n0 Q h cs sl pc ls (.int j :: .ref a :: st) := by
  subst hp
  obtain ⟨cl, A, r, q⟩ := A
  obtain ⟨g1, g2⟩ := Av.place r hj hv
  exact WP.step (fun p e s m args below meth c T L C X hT target k' => X.aaload C.1 (by rw [hT]; exact A.1) (State.isArrayOf_alike C.2.1.alike A.2.1) hty A.2.2 g1 g2 (g := mkF m pc ls (.int j :: .ref a :: st)) rfl rfl (hb C.2.2.2.1 hd) _ k') H
theorem WP.iastore {j : Int32} {x : Int32} (i : Nat) (hd : decode B.bytes pc = .ok (.iastore, 1)) (A : Av Z h a .int vs) (hj : j.toInt = (i : Int)) (hi : i < vs.length) (ha : n0 ≤ a) (hp : pc + 1 = pc') (H : ∀ h', Keep h h' [a] → Av Z h' a .int (vs.set i (.int x)) → WP l B Z n0 Q h' cs sl pc' ls st) : WP l B Z n0 Q h cs sl pc ls (.int x :: .int j :: .ref a :: st) := by
  subst hp
  obtain ⟨cl, Ar, r, q⟩ := id A
  obtain ⟨g1, -⟩ := Av.place r hj (List.getElem?_eq_getElem hi)
  refine WP.stepT (P := fun h' => Keep h h' [a] ∧ Av Z h' a .int (vs.set i (.int x))) ?_ (fun h' q => H h' q.1 q.2)
  intro p e s m args below meth c T L C X hT N hn'
  obtain ⟨T1, h1, X1, e1, W1, stp⟩ := stI X C.1 C.2.1 hT Ar g1 (g := mkF m pc ls (.int x :: .int j :: .ref a :: st)) rfl rfl (hb C.2.2.2.1 hd)
  exact ⟨T1, h1, _, X1, e1, Fr.snoc X1 N ha, by rw [W1.size]; exact hn', ⟨Keep.of_wr W1, A.set W1 (own_idx hj).1⟩, stp⟩
theorem WP.lastore {j : Int32} {x : Int64} (i : Nat) (hd : decode B.bytes pc = .ok (.lastore, 1)) (A : Av Z h a .long vs) (hj : j.toInt = (i : Int)) (hi : i < vs.length) (ha : n0 ≤ a) (hp : pc + 1 = pc') (H : ∀ h', Keep h h' [a] → Av Z h' a .long (vs.set i (.long x)) → WP l B Z n0 Q h' cs sl pc' ls st) : WP l B Z n0 Q h cs sl pc ls (.long x :: .int j :: .ref a :: st) := by
  subst hp
  obtain ⟨cl, Ar, r, q⟩ := id A
  obtain ⟨g1, -⟩ := Av.place r hj (List.getElem?_eq_getElem hi)
  refine WP.stepT (P := fun h' => Keep h h' [a] ∧ Av Z h' a .long (vs.set i (.long x))) ?_ (fun h' q => H h' q.1 q.2)
  intro p e s m args below meth c T L C X hT N hn'
  obtain ⟨T1, h1, X1, e1, W1, stp⟩ := stJ X C.1 C.2.1 hT Ar g1 (g := mkF m pc ls (.long x :: .int j :: .ref a :: st)) rfl rfl (hb C.2.2.2.1 hd)
  exact ⟨T1, h1, _, X1, e1, Fr.snoc X1 N ha, by rw [W1.size]; exact hn', ⟨Keep.of_wr W1, A.set W1 (own_idx hj).1⟩, stp⟩
theorem WP.castore {j : Int32} {x : Int32} (i : Nat) (hd : decode B.bytes pc = .ok (.castore, 1)) (A : Av Z h a .char vs) (hj : j.toInt = (i : Int)) (hi : i < vs.length) (ha : n0 ≤ a) (hp : pc + 1 = pc') (H : ∀ h', Keep h h' [a] → Av Z h' a .char (vs.set i (.int (nar .char x))) → WP l B Z n0 Q h' cs sl pc' ls st) : WP l B Z n0 Q h cs sl pc ls (.int x :: .int j :: .ref a :: st) := by
  subst hp
  obtain ⟨cl, Ar, r, q⟩ := id A
  obtain ⟨g1, -⟩ := Av.place r hj (List.getElem?_eq_getElem hi)
  refine WP.stepT (P := fun h' => Keep h h' [a] ∧ Av Z h' a .char (vs.set i (.int (nar .char x)))) ?_ (fun h' q => H h' q.1 q.2)
  intro p e s m args below meth c T L C X hT N hn'
  obtain ⟨T1, h1, X1, e1, W1, stp⟩ := stC X C.1 C.2.1 hT Ar g1 (g := mkF m pc ls (.int x :: .int j :: .ref a :: st)) rfl rfl (hb C.2.2.2.1 hd)
  exact ⟨T1, h1, _, X1, e1, Fr.snoc X1 N ha, by rw [W1.size]; exact hn', ⟨Keep.of_wr W1, A.set W1 (own_idx hj).1⟩, stp⟩
theorem WP.bastoreB {j : Int32} {x : Int32} (i : Nat) (hd : decode B.bytes pc = .ok (.bastore, 1)) (A : Av Z h a .byte vs) (hj : j.toInt = (i : Int)) (hi : i < vs.length) (ha : n0 ≤ a) (hp : pc + 1 = pc') (H : ∀ h', Keep h h' [a] → Av Z h' a .byte (vs.set i (.int (nar .byte x))) → WP l B Z n0 Q h' cs sl pc' ls st) : WP l B Z n0 Q h cs sl pc ls (.int x :: .int j :: .ref a :: st) := by
  subst hp
  obtain ⟨cl, Ar, r, q⟩ := id A
  obtain ⟨g1, -⟩ := Av.place r hj (List.getElem?_eq_getElem hi)
  refine WP.stepT (P := fun h' => Keep h h' [a] ∧ Av Z h' a .byte (vs.set i (.int (nar .byte x)))) ?_ (fun h' q => H h' q.1 q.2)
  intro p e s m args below meth c T L C X hT N hn'
  obtain ⟨T1, h1, X1, e1, W1, stp⟩ := stB X C.1 C.2.1 hT Ar g1 (g := mkF m pc ls (.int x :: .int j :: .ref a :: st)) rfl rfl (hb C.2.2.2.1 hd)
  exact ⟨T1, h1, _, X1, e1, Fr.snoc X1 N ha, by rw [W1.size]; exact hn', ⟨Keep.of_wr W1, A.set W1 (own_idx hj).1⟩, stp⟩
theorem WP.bastoreZ {j : Int32} {x : Int32} (i : Nat) (hd : decode B.bytes pc = .ok (.bastore, 1)) (A : Av Z h a .boolean vs) (hj : j.toInt = (i : Int)) (hi : i < vs.length) (ha : n0 ≤ a) (hp : pc + 1 = pc') (H : ∀ h', Keep h h' [a] → Av Z h' a .boolean (vs.set i (.int (nar .boolean x))) → WP l B Z n0 Q h' cs sl pc' ls st) : WP l B Z n0 Q h cs sl pc ls (.int x :: .int j :: .ref a :: st) := by
  subst hp
  obtain ⟨cl, Ar, r, q⟩ := id A
  obtain ⟨g1, -⟩ := Av.place r hj (List.getElem?_eq_getElem hi)
  refine WP.stepT (P := fun h' => Keep h h' [a] ∧ Av Z h' a .boolean (vs.set i (.int (nar .boolean x)))) ?_ (fun h' q => H h' q.1 q.2)
  intro p e s m args below meth c T L C X hT N hn'
  obtain ⟨T1, h1, X1, e1, W1, stp⟩ := stZ X C.1 C.2.1 hT Ar g1 (g := mkF m pc ls (.int x :: .int j :: .ref a :: st)) rfl rfl (hb C.2.2.2.1 hd)
  exact ⟨T1, h1, _, X1, e1, Fr.snoc X1 N ha, by rw [W1.size]; exact hn', ⟨Keep.of_wr W1, A.set W1 (own_idx hj).1⟩, stp⟩
/-! objects: the fields that the sheet lays, in one list -/
abbrev OLay : Type := List (String × String × String)
def Ob (Z : State) (h : Heap) (a : Addr) (C : String) (lay : OLay) (vs : List Value) : Prop := Exa Z h a C ∧ lay.length = vs.length ∧ ∀ (i : Nat) (O n d : String) (v : Value), lay[i]? = some (O, n, d) → vs[i]? = some v → Fld Z h a O n d v
def OLaids (Z : State) (a0 : Array Value) (C : String) (lay : OLay) : Prop := ∀ q ∈ lay, Laid Z a0 C q.1 q.2.1 q.2.2 ∧ ∃ t, parseFieldDescriptor q.2.2 = some t
variable {Cl O n d : String} {lay : OLay} {v : Value}
theorem Ob.lt (A : Ob Z h a Cl lay vs) : a < h.size := A.1.lt
theorem Ob.keep (A : Ob Z h a Cl lay vs) (K : Keep h h' ws) (q : a ∉ ws) : Ob Z h' a Cl lay vs := ⟨A.1.keep K, A.2.1, fun i O n d v h1 h2 => (A.2.2 i O n d v h1 h2).keep K q⟩
theorem Ob.fld (A : Ob Z h a Cl lay vs) (i : Nat) (h1 : lay[i]? = some (O, n, d)) (h2 : vs[i]? = some v) : Fld Z h a O n d v := A.2.2 i O n d v h1 h2
theorem Ob.put {i : Nat} (A : Ob Z h a Cl lay vs) (La : OLaids Z a0 Cl lay) (hnd : (lay.map fun q => q.2.1).Nodup) (h1 : lay[i]? = some (O, n, d)) (W : Wr h h' a (Jvm.RoadKit.slotOf Z O n d) v) : Ob Z h' a Cl lay (vs.set i v) := by
  refine ⟨A.1.wr W, by simpa using A.2.1, fun j O' n' d' v' g1 g2 => ?_⟩
  by_cases e : i = j
  · subst e
    cases h1.symm.trans g1
    have hi : i < vs.length := by rw [← A.2.1]; exact (List.getElem?_eq_some_iff.mp h1).1
    rw [List.getElem?_set_self hi] at g2
    cases g2
    exact (A.fld i h1 (List.getElem?_eq_getElem hi)).same W
  · rw [List.getElem?_set_ne e] at g2
    refine (A.fld j g1 g2).other W (Or.inr ?_)
    obtain ⟨l1, t1, p1⟩ := La _ (List.mem_of_getElem? g1)
    obtain ⟨l2, t2, p2⟩ := La _ (List.mem_of_getElem? h1)
    refine slot_ne l1 l2 (fun q => ?_) p1 p2
    have k1 : (lay.map fun q => q.2.1)[j]? = some n' := by simp [g1]
    have k2 : (lay.map fun q => q.2.1)[i]? = some n := by simp [h1]
    obtain ⟨m1, f1⟩ := List.getElem?_eq_some_iff.mp k1
    obtain ⟨m2, f2⟩ := List.getElem?_eq_some_iff.mp k2
    have pw := List.pairwise_iff_getElem.mp hnd
    rcases Nat.lt_or_gt_of_ne e with c | c
    · exact pw i j m2 m1 c (f2.trans ((show n = n' from q.symm).trans f1.symm))
    · exact pw j i m1 m2 c (f1.trans ((show n' = n from q).trans f2.symm))
theorem WP.getf {idx i : Nat} (hd : decode B.bytes pc = .ok (.getfield idx, 3)) (w : (Cond.fieldLink B.own idx O n d).before a0 Z = true) (A : Ob Z h a Cl lay vs) (h1 : lay[i]? = some (O, n, d)) (h2 : vs[i]? = some v) (hp : pc + 3 = pc') (H : WP l B Z n0 Q h cs sl pc' ls (v :: st)) : WP l B Z n0 Q h cs sl pc ls (.ref a :: st) := by
  subst hp
  intro p e s m args below meth c T L C X hT N hn
  obtain ⟨T1, X1, e1, stp⟩ := getF X C.1 C.2.1 C.2.2.1 (host := "") (Or.inl w) Via.refl hT (A.fld i h1 h2) (g := mkF m pc ls (.ref a :: st)) rfl rfl (hb C.2.2.2.1 hd)
  obtain ⟨U, v', L', a1, rr⟩ := H p e s m args below meth c T1 _ C X1 e1 N hn
  exact ⟨U, v', L', stp _ a1, rr⟩
theorem WP.putf {idx i kk : Nat} {t : FieldType} (hd : decode B.bytes pc = .ok (.putfield idx, 3)) (w : (Cond.fieldLink B.own idx O n d).before a0 Z = true) (A : Ob Z h a Cl lay vs) (La : OLaids Z a0 Cl lay) (hnd : (lay.map fun q => q.2.1).Nodup) (h1 : lay[i]? = some (O, n, d))
    (hL : (Cond.lays Cl O n d).before a0 Z = true ∨ ((Cond.laysFinal Cl O n d).before a0 Z = true ∧ B.own = O ∧ B.mname = "<init>")) (wi : (Cond.instantiable Cl kk).before a0 Z = true) (ht : parseFieldDescriptor d = some t) (hnw : narrow t v = v) (hf : fits t v = true) (ha : n0 ≤ a) (hp : pc + 3 = pc')
    (H : ∀ h', Keep h h' [a] → Ob Z h' a Cl lay (vs.set i v) → WP l B Z n0 Q h' cs sl pc' ls st) : WP l B Z n0 Q h cs sl pc ls (v :: .ref a :: st) := by
  subst hp
  have hi : i < vs.length := by rw [← A.2.1]; exact (List.getElem?_eq_some_iff.mp h1).1
  refine WP.stepT (P := fun h' => Keep h h' [a] ∧ Ob Z h' a Cl lay (vs.set i v)) ?_ (fun h' q => H h' q.1 q.2)
  intro p e s m args below meth c T L C X hT N hn'
  obtain ⟨T1, h2, X1, e1, W1, stp⟩ := putF X C.1 C.2.1 C.2.2.1 (host := "") (Or.inl w) Via.refl hT (A.fld i h1 (List.getElem?_eq_getElem hi)) A.1 (hL.imp id fun q => ⟨q.1, q.2.1, C.2.2.2.2.2.2.2.trans q.2.2⟩) wi ht hnw hf (g := mkF m pc ls (v :: .ref a :: st)) rfl rfl (hb C.2.2.2.1 hd)
  exact ⟨T1, h2, _, X1, e1, Fr.snoc X1 N ha, by rw [W1.size]; exact hn', ⟨Keep.of_wr W1, A.put La hnd h1 W1⟩, stp⟩
theorem WP.newobj {idx k : Nat} (hd : decode B.bytes pc = .ok (.new idx, 3)) (w : (Cond.classLink B.own idx Cl).before a0 Z = true) (wi : (Cond.instantiable Cl k).before a0 Z = true) (wz : (Cond.initialized Cl).before a0 Z = true) (La : OLaids Z a0 Cl lay) (hvs : lay.map (fun q => (parseFieldDescriptor q.2.2).map defaultValue) = vs.map some) (hc : cs + 1 ≤ B.room.cells) (hs : sl + k ≤ B.room.slots) (hp : pc + 3 = pc')
    (H : ∀ b h', b = h.size → n0 ≤ b → Keep h h' [] → Ob Z h' b Cl lay vs → WP l B Z n0 Q h' (cs + 1) (sl + k) pc' ls (.ref b :: st)) : WP l B Z n0 Q h cs sl pc ls st := by
  subst hp
  refine WP.stepT (P := fun h' => Keep h h' [] ∧ n0 ≤ h.size ∧ Ob Z h' h.size Cl lay vs) ?_ (fun h' q => H h.size h' rfl q.2.1 q.1 q.2.2)
  intro p e s m args below meth c T L C X hT N hn'
  obtain ⟨T1, h1, X1, e1, E1, A1, D1, -, stp⟩ := newO X C.1 C.2.1 C.2.2.1 w wi wz hT (g := mkF m pc ls st) rfl (hb C.2.2.2.1 hd) hc hs
  refine ⟨T1, h1, L, X1, e1, N, Nat.le_trans hn' E1.1, ⟨Keep.of_ext E1, hn', A1, by simpa using congrArg List.length hvs, fun i O n d v g1 g2 => ?_⟩, stp⟩
  obtain ⟨l1, t1, p1⟩ := La _ (List.mem_of_getElem? g1)
  have k1 := congrArg (fun z => z[i]?) hvs
  simp only [List.getElem?_map, g1, g2, Option.map_some] at k1
  rw [show parseFieldDescriptor d = some t1 from p1] at k1
  simp only [Option.map_some, Option.some.injEq] at k1
  rw [← k1]
  exact D1 l1 p1
end W
end Jvm.OwnWP
namespace Jvm.OwnWP
open Sem ClassFile Op Lib Jvm.RoadKit
theorem own_r32 (x : Int32) : -2147483648 ≤ x.toInt ∧ x.toInt < 2147483648 := ⟨x.le_toInt, x.toInt_lt⟩
theorem own_r64 (x : Int64) : -9223372036854775808 ≤ x.toInt ∧ x.toInt < 9223372036854775808 := ⟨x.le_toInt, x.toInt_lt⟩
theorem own_iadd {x y : Int32} (h1 : -2147483648 ≤ x.toInt + y.toInt) (h2 : x.toInt + y.toInt < 2147483648) : (x + y).toInt = x.toInt + y.toInt := by have := c_iadd x y; have := own_r32 (x + y); omega
theorem own_isub {x y : Int32} (h1 : -2147483648 ≤ x.toInt - y.toInt) (h2 : x.toInt - y.toInt < 2147483648) : (x - y).toInt = x.toInt - y.toInt := by have := c_isub x y; have := own_r32 (x - y); omega
theorem own_ladd {x y : Int64} (h1 : -9223372036854775808 ≤ x.toInt + y.toInt) (h2 : x.toInt + y.toInt < 9223372036854775808) : (x + y).toInt = x.toInt + y.toInt := by have := c_ladd x y; have := own_r64 (x + y); omega
theorem own_lsub {x y : Int64} (h1 : -9223372036854775808 ≤ x.toInt - y.toInt) (h2 : x.toInt - y.toInt < 9223372036854775808) : (x - y).toInt = x.toInt - y.toInt := by have := c_lsub x y; have := own_r64 (x - y); omega
theorem own_mask (x m : Int32) (k : Nat) (P : Int) (hk : k ≤ 31) (hm : m.toBitVec.toNat = 2 ^ k - 1) (hP : ((2 ^ k : Nat) : Int) = P) : (x &&& m).toInt = x.toInt % P := by rw [← hP]; exact c_mask x m k hk hm
theorem own_maskL (x m : Int64) (k : Nat) (P : Int) (hk : k ≤ 63) (hm : m.toBitVec.toNat = 2 ^ k - 1) (hP : ((2 ^ k : Nat) : Int) = P) : (x &&& m).toInt = x.toInt % P := by rw [← hP]; exact c_maskL x m k hk hm
theorem own_irem {x y : Int32} {d : Int} (hy : y.toInt = d) (h0 : 0 ≤ x.toInt) : (x % y).toInt = x.toInt % d := (c_irem x y d hy).1 h0
theorem own_ushr (x q : Int32) (k : Nat) (P : Int) (hk : q.toBitVec.toNat % 32 = k) (h0 : 0 < k) (hP : ((2 ^ k : Nat) : Int) = P) : (ushr x q).toInt = (x.toInt % 4294967296) / P := by rw [← hP]; exact c_iushr x q k hk h0
theorem own_ishr (x q : Int32) (k : Nat) (P : Int) (hk : q.toBitVec.toNat % 32 = k) (hP : ((2 ^ k : Nat) : Int) = P) : (x >>> (q &&& 31)).toInt = x.toInt / P := by rw [← hP]; exact c_ishr x q k hk
theorem own_nar1 : nar .boolean 1 = 1 := by decide
theorem own_nar0 : nar .boolean 0 = 0 := by decide
theorem own_q1 : (some (Value.int (nar .boolean 1))) = some (Value.int 1) := congrArg (fun z => some (Value.int z)) own_nar1
theorem own_q0 : (some (Value.int (nar .boolean 0))) = some (Value.int 0) := congrArg (fun z => some (Value.int z)) own_nar0
theorem own_e32 {x y : Int32} (h : x.toInt = y.toInt) : x = y := Int32.toInt_inj.mp h
theorem own_e64 {x y : Int64} (h : x.toInt = y.toInt) : x = y := Int64.toInt_inj.mp h
end Jvm.OwnWP
namespace Jvm.OwnWP
theorem own_getI (xs : List Int32) (i : Nat) (h : i < xs.length) : ∃ y, (xs.map Value.int)[i]? = some (Value.int y) := ⟨xs[i], by simp [h]⟩
theorem own_getJ (xs : List Int64) (i : Nat) (h : i < xs.length) : ∃ y, (xs.map Value.long)[i]? = some (Value.long y) := ⟨xs[i], by simp [h]⟩
end Jvm.OwnWP
namespace Jvm.OwnWP
open Sem ClassFile Op Lib Jvm.Stand Jvm.Free Jvm.LawKit Jvm.RoadKit
section W
variable {l : Launch} {B : Bod} {Z : State} {n0 : Nat} {Q : Option Value → Heap → Prop} {h : Heap} {cs sl pc pc' : Nat} {ls ls' : Array Slot} {st rest : List Value} {a0 : Array Value}
/-- a private method by invokevirtual; that its class is no interface is read off another 'selects' word of that class -/
theorem WP.callP {y y0 : MethodName} {By : Bod} {Cl : String} {as : List Value} {a : Addr} {idx : Nat} {Qy : Option Value → Heap → Prop} {ps : List FieldType} {r : Option FieldType}
    (hd : decode B.bytes pc = .ok (.invokevirtual idx, 3)) (w1 : (Cond.methodLink B.own idx y).before a0 Z = true) (w2 : (Cond.instanceMethod y).before a0 Z = true) (w5 : (Cond.privateMethod y).before a0 Z = true) (w6 : (Cond.selects Cl y0 y0).before a0 Z = true) (w3 : (Cond.initialized y.cls).before a0 Z = true) (w4 : (Cond.code y By.bytes By.maxL By.ret).before a0 Z = true) (hcl : y0.cls = y.cls)
    (hy : y.cls ≠ "java/lang/invoke/MethodHandle" ∧ y.cls ≠ "java/lang/invoke/VarHandle") {Ce : String} (E : Exa Z h a Ce) (hM : OMet l y By Z n0 (.ref a :: as).toArray h Qy) (hpd : parseMethodDescriptor y.desc = some ⟨ps, r⟩) (hlen : as.length = ps.length) (hst : st = as.reverse ++ .ref a :: rest) (hls : ls.size = B.maxL)
    (hfr : By.room.frames + 1 ≤ B.room.frames) (hlo : (rest.map fun v => v.category).sum + (By.maxL + 11) + By.room.locals ≤ B.room.locals) (hc : cs + By.room.cells ≤ B.room.cells) (hs : sl + By.room.slots ≤ B.room.slots) (hp : pc + 3 = pc')
    (H : ∀ v h', Qy v h' → WP l B Z n0 Q h' (cs + By.room.cells) (sl + By.room.slots) pc' ls (v.toList ++ rest)) : WP l B Z n0 Q h cs sl pc ls st := by
  subst hp
  intro p e s m args below meth c T L C X hT N hn
  obtain ⟨hx, hZ, hown, hby, hml, hret, hlk, hnm⟩ := C
  obtain ⟨cq, q1, q2⟩ := E.cell
  have hpr : s.PrivateAt y := Cond.privateMethod_at (mvP hZ w5 (args := #[]))
  have hsel : (Cond.selects y.cls y y).before args s = true := by
    obtain ⟨c2, r2, m2, -, -, q3, -, kP, hkP, hkPi⟩ := Cond.selects_spec (mvT (args := args) hZ w6)
    have hc2 := findClass_of_methodNamed q3
    rw [hcl] at hc2
    exact selects_self_of_private hc2 hkP hkPi hpr (mvT hZ w2) hy
  obtain ⟨v, _, ⟨T1, L1, k1, n1⟩, -, X1, ⟨Lc, hQ, l1, y1, z1⟩, stp⟩ := X.privateBack hx (y := y) hown (mvT hZ w1) (mvT hZ w2) hsel hpr (mvT hZ w4) hy (backOf (W := (rest.map fun v => v.category).sum) (Q := fun v h' L => Qy v h' ∧ Fr n0 L ∧ n0 ≤ h'.size) (hM hn []) hZ w4 w3 hfr hlo) (g := mkF m pc ls st) rfl (by rw [hml]; exact hls) (Steps.refl _) (a := a) (cell := cq) (by rw [hT]; exact q1) q2 (argsL := as) (rest := rest) (lenOf hpd hlen) hst (by show 2 * 0 + _ ≤ _; omega) (hb hby hd) (fun _ _ => ⟨rfl, hT, hc, hs⟩)
  dsimp only [Pt.U, Pt.locs, Pt.cells, Pt.slots] at X1 l1 y1 z1 stp hQ
  subst l1 y1 z1
  obtain ⟨U, v', L', a1, rr⟩ := H v T1.heap hQ.1 p e s m args below meth c T1 _ ⟨hx, hZ, hown, hby, hml, hret, hlk, hnm⟩ X1 rfl (N.app hQ.2.1) hQ.2.2
  exact ⟨U, v', L', stp.trans a1, rr⟩
end W
end Jvm.OwnWP


namespace Jvm.Pilot.@@N@@
open Jvm Jvm.ClassFile Sem Op Lib Jvm.Free Jvm.Stand Jvm.LawKit Jvm.RoadKit Jvm.OwnWP Bundle Jvm.Pilot.@@N@@.Jvm.D

abbrev HW (Z : State) (a0 : Array Value) : Prop := ∀ d ∈ tables_1, d.before a0 Z = true
theorem w0 {Z : State} {a0 : Array Value} (hw : HW Z a0) : ((Jvm.Cond.methodLink "com/example/chronoxyl/chronoxyl/history/XmlIsNameStartPinLaw" (23 : Nat) ({ cls := "com/example/chronoxyl/chronoxyl/history/XmlIsNameStartPinLaw", name := "edges", desc := "()[I" } : Jvm.MethodName))).before a0 Z = true := hw _ (List.mem_of_getElem? (i := 0) rfl)
theorem w1 {Z : State} {a0 : Array Value} (hw : HW Z a0) : ((Jvm.Cond.static ({ cls := "com/example/chronoxyl/chronoxyl/history/XmlIsNameStartPinLaw", name := "edges", desc := "()[I" } : Jvm.MethodName))).before a0 Z = true := hw _ (List.mem_of_getElem? (i := 1) rfl)
theorem w2 {Z : State} {a0 : Array Value} (hw : HW Z a0) : ((Jvm.Cond.initialized "com/example/chronoxyl/chronoxyl/history/XmlIsNameStartPinLaw")).before a0 Z = true := hw _ (List.mem_of_getElem? (i := 2) rfl)
theorem w3 {Z : State} {a0 : Array Value} (hw : HW Z a0) : ((Jvm.Cond.code ({ cls := "com/example/chronoxyl/chronoxyl/history/XmlIsNameStartPinLaw", name := "edges", desc := "()[I" } : Jvm.MethodName) method_2_code (0 : Nat) (Option.some (Jvm.ClassFile.FieldType.array Jvm.ClassFile.FieldType.int)))).before a0 Z = true := hw _ (List.mem_of_getElem? (i := 3) rfl)
theorem w4 {Z : State} {a0 : Array Value} (hw : HW Z a0) : ((Jvm.Cond.arrayClass Jvm.ClassFile.FieldType.int)).before a0 Z = true := hw _ (List.mem_of_getElem? (i := 4) rfl)
theorem w5 {Z : State} {a0 : Array Value} (hw : HW Z a0) : ((Jvm.Cond.constant "com/example/chronoxyl/chronoxyl/history/XmlIsNameStartPinLaw" (7 : Nat) (55296 : Int32))).before a0 Z = true := hw _ (List.mem_of_getElem? (i := 5) rfl)
theorem w6 {Z : State} {a0 : Array Value} (hw : HW Z a0) : ((Jvm.Cond.constant "com/example/chronoxyl/chronoxyl/history/XmlIsNameStartPinLaw" (8 : Nat) (63744 : Int32))).before a0 Z = true := hw _ (List.mem_of_getElem? (i := 6) rfl)
theorem w7 {Z : State} {a0 : Array Value} (hw : HW Z a0) : ((Jvm.Cond.constant "com/example/chronoxyl/chronoxyl/history/XmlIsNameStartPinLaw" (9 : Nat) (64976 : Int32))).before a0 Z = true := hw _ (List.mem_of_getElem? (i := 7) rfl)
theorem w8 {Z : State} {a0 : Array Value} (hw : HW Z a0) : ((Jvm.Cond.constant "com/example/chronoxyl/chronoxyl/history/XmlIsNameStartPinLaw" (10 : Nat) (65008 : Int32))).before a0 Z = true := hw _ (List.mem_of_getElem? (i := 8) rfl)
theorem w9 {Z : State} {a0 : Array Value} (hw : HW Z a0) : ((Jvm.Cond.constant "com/example/chronoxyl/chronoxyl/history/XmlIsNameStartPinLaw" (11 : Nat) (65534 : Int32))).before a0 Z = true := hw _ (List.mem_of_getElem? (i := 9) rfl)
theorem w10 {Z : State} {a0 : Array Value} (hw : HW Z a0) : ((Jvm.Cond.constant "com/example/chronoxyl/chronoxyl/history/XmlIsNameStartPinLaw" (12 : Nat) (65536 : Int32))).before a0 Z = true := hw _ (List.mem_of_getElem? (i := 10) rfl)
theorem w11 {Z : State} {a0 : Array Value} (hw : HW Z a0) : ((Jvm.Cond.constant "com/example/chronoxyl/chronoxyl/history/XmlIsNameStartPinLaw" (13 : Nat) (983040 : Int32))).before a0 Z = true := hw _ (List.mem_of_getElem? (i := 11) rfl)
theorem w12 {Z : State} {a0 : Array Value} (hw : HW Z a0) : ((Jvm.Cond.constant "com/example/chronoxyl/chronoxyl/history/XmlIsNameStartPinLaw" (16 : Nat) (2147483647 : Int32))).before a0 Z = true := hw _ (List.mem_of_getElem? (i := 12) rfl)
theorem w13 {Z : State} {a0 : Array Value} (hw : HW Z a0) : ((Jvm.Cond.methodLink "com/example/chronoxyl/chronoxyl/history/XmlIsNameStartPinLaw" (27 : Nat) ({ cls := "com/example/chronoxyl/chronoxyl/history/Xml", name := "isNameStart", desc := "(I)Z" } : Jvm.MethodName))).before a0 Z = true := hw _ (List.mem_of_getElem? (i := 13) rfl)
theorem w14 {Z : State} {a0 : Array Value} (hw : HW Z a0) : ((Jvm.Cond.static ({ cls := "com/example/chronoxyl/chronoxyl/history/Xml", name := "isNameStart", desc := "(I)Z" } : Jvm.MethodName))).before a0 Z = true := hw _ (List.mem_of_getElem? (i := 14) rfl)
theorem w15 {Z : State} {a0 : Array Value} (hw : HW Z a0) : ((Jvm.Cond.initialized "com/example/chronoxyl/chronoxyl/history/Xml")).before a0 Z = true := hw _ (List.mem_of_getElem? (i := 15) rfl)
theorem w16 {Z : State} {a0 : Array Value} (hw : HW Z a0) : ((Jvm.Cond.code ({ cls := "com/example/chronoxyl/chronoxyl/history/Xml", name := "isNameStart", desc := "(I)Z" } : Jvm.MethodName) prog_47_method_4_code (1 : Nat) (Option.some Jvm.ClassFile.FieldType.boolean))).before a0 Z = true := hw _ (List.mem_of_getElem? (i := 16) rfl)
theorem w17 {Z : State} {a0 : Array Value} (hw : HW Z a0) : ((Jvm.Cond.constant "com/example/chronoxyl/chronoxyl/history/Xml" (40 : Nat) (63744 : Int32))).before a0 Z = true := hw _ (List.mem_of_getElem? (i := 17) rfl)
theorem w18 {Z : State} {a0 : Array Value} (hw : HW Z a0) : ((Jvm.Cond.constant "com/example/chronoxyl/chronoxyl/history/Xml" (42 : Nat) (65008 : Int32))).before a0 Z = true := hw _ (List.mem_of_getElem? (i := 18) rfl)
theorem w19 {Z : State} {a0 : Array Value} (hw : HW Z a0) : ((Jvm.Cond.constant "com/example/chronoxyl/chronoxyl/history/Xml" (38 : Nat) (65536 : Int32))).before a0 Z = true := hw _ (List.mem_of_getElem? (i := 19) rfl)
theorem w20 {Z : State} {a0 : Array Value} (hw : HW Z a0) : ((Jvm.Cond.methodLink "com/example/chronoxyl/chronoxyl/history/XmlIsNameStartPinLaw" (33 : Nat) ({ cls := "com/example/chronoxyl/chronoxyl/history/XmlIsNameStartPinLaw", name := "reference", desc := "([II)Z" } : Jvm.MethodName))).before a0 Z = true := hw _ (List.mem_of_getElem? (i := 20) rfl)
theorem w21 {Z : State} {a0 : Array Value} (hw : HW Z a0) : ((Jvm.Cond.static ({ cls := "com/example/chronoxyl/chronoxyl/history/XmlIsNameStartPinLaw", name := "reference", desc := "([II)Z" } : Jvm.MethodName))).before a0 Z = true := hw _ (List.mem_of_getElem? (i := 21) rfl)
theorem w22 {Z : State} {a0 : Array Value} (hw : HW Z a0) : ((Jvm.Cond.code ({ cls := "com/example/chronoxyl/chronoxyl/history/XmlIsNameStartPinLaw", name := "reference", desc := "([II)Z" } : Jvm.MethodName) method_4_code (2 : Nat) (Option.some Jvm.ClassFile.FieldType.boolean))).before a0 Z = true := hw _ (List.mem_of_getElem? (i := 22) rfl)
theorem w23 {Z : State} {a0 : Array Value} (hw : HW Z a0) : ((Jvm.Cond.methodLink "com/example/chronoxyl/chronoxyl/history/XmlIsNameStartPinLaw" (17 : Nat) ({ cls := "com/example/chronoxyl/chronoxyl/history/XmlIsNameStartPinLaw", name := "countAtMost", desc := "([II)I" } : Jvm.MethodName))).before a0 Z = true := hw _ (List.mem_of_getElem? (i := 23) rfl)
theorem w24 {Z : State} {a0 : Array Value} (hw : HW Z a0) : ((Jvm.Cond.static ({ cls := "com/example/chronoxyl/chronoxyl/history/XmlIsNameStartPinLaw", name := "countAtMost", desc := "([II)I" } : Jvm.MethodName))).before a0 Z = true := hw _ (List.mem_of_getElem? (i := 24) rfl)
theorem w25 {Z : State} {a0 : Array Value} (hw : HW Z a0) : ((Jvm.Cond.code ({ cls := "com/example/chronoxyl/chronoxyl/history/XmlIsNameStartPinLaw", name := "countAtMost", desc := "([II)I" } : Jvm.MethodName) method_3_code (3 : Nat) (Option.some Jvm.ClassFile.FieldType.int))).before a0 Z = true := hw _ (List.mem_of_getElem? (i := 25) rfl)
theorem w26 {Z : State} {a0 : Array Value} (hw : HW Z a0) : ((Jvm.Cond.constant "com/example/chronoxyl/chronoxyl/history/Xml" (35 : Nat) (55295 : Int32))).before a0 Z = true := hw _ (List.mem_of_getElem? (i := 26) rfl)
theorem w27 {Z : State} {a0 : Array Value} (hw : HW Z a0) : ((Jvm.Cond.constant "com/example/chronoxyl/chronoxyl/history/Xml" (41 : Nat) (64975 : Int32))).before a0 Z = true := hw _ (List.mem_of_getElem? (i := 27) rfl)
theorem w28 {Z : State} {a0 : Array Value} (hw : HW Z a0) : ((Jvm.Cond.constant "com/example/chronoxyl/chronoxyl/history/Xml" (37 : Nat) (65533 : Int32))).before a0 Z = true := hw _ (List.mem_of_getElem? (i := 28) rfl)
theorem w29 {Z : State} {a0 : Array Value} (hw : HW Z a0) : ((Jvm.Cond.constant "com/example/chronoxyl/chronoxyl/history/Xml" (43 : Nat) (983039 : Int32))).before a0 Z = true := hw _ (List.mem_of_getElem? (i := 29) rfl)
theorem pd_0 : parseMethodDescriptor "([II)I" = some ⟨[(.array .int), .int], some .int⟩ := by decide +kernel
theorem pd_1 : parseMethodDescriptor "()[I" = some ⟨[], some (.array .int)⟩ := by decide +kernel
theorem pd_2 : parseMethodDescriptor "(I)Z" = some ⟨[.int], some .boolean⟩ := by decide +kernel
theorem pd_3 : parseMethodDescriptor "([II)Z" = some ⟨[(.array .int), .int], some .boolean⟩ := by decide +kernel
theorem d1_0 : decode method_2_code 0 = .ok (.bipush 32, 2) := by decide +kernel
theorem d1_2 : decode method_2_code 2 = .ok (.newarray .int, 2) := by decide +kernel
theorem d1_4 : decode method_2_code 4 = .ok (.dup, 1) := by decide +kernel
theorem d1_5 : decode method_2_code 5 = .ok (.iconst 0, 1) := by decide +kernel
theorem d1_6 : decode method_2_code 6 = .ok (.bipush 65, 2) := by decide +kernel
theorem d1_8 : decode method_2_code 8 = .ok (.iastore, 1) := by decide +kernel
theorem d1_9 : decode method_2_code 9 = .ok (.dup, 1) := by decide +kernel
theorem d1_10 : decode method_2_code 10 = .ok (.iconst 1, 1) := by decide +kernel
theorem d1_11 : decode method_2_code 11 = .ok (.bipush 91, 2) := by decide +kernel
theorem d1_13 : decode method_2_code 13 = .ok (.iastore, 1) := by decide +kernel
theorem d1_14 : decode method_2_code 14 = .ok (.dup, 1) := by decide +kernel
theorem d1_15 : decode method_2_code 15 = .ok (.iconst 2, 1) := by decide +kernel
theorem d1_16 : decode method_2_code 16 = .ok (.bipush 95, 2) := by decide +kernel
theorem d1_18 : decode method_2_code 18 = .ok (.iastore, 1) := by decide +kernel
theorem d1_19 : decode method_2_code 19 = .ok (.dup, 1) := by decide +kernel
theorem d1_20 : decode method_2_code 20 = .ok (.iconst 3, 1) := by decide +kernel
theorem d1_21 : decode method_2_code 21 = .ok (.bipush 96, 2) := by decide +kernel
theorem d1_23 : decode method_2_code 23 = .ok (.iastore, 1) := by decide +kernel
theorem d1_24 : decode method_2_code 24 = .ok (.dup, 1) := by decide +kernel
theorem d1_25 : decode method_2_code 25 = .ok (.iconst 4, 1) := by decide +kernel
theorem d1_26 : decode method_2_code 26 = .ok (.bipush 97, 2) := by decide +kernel
theorem d1_28 : decode method_2_code 28 = .ok (.iastore, 1) := by decide +kernel
theorem d1_29 : decode method_2_code 29 = .ok (.dup, 1) := by decide +kernel
theorem d1_30 : decode method_2_code 30 = .ok (.iconst 5, 1) := by decide +kernel
theorem d1_31 : decode method_2_code 31 = .ok (.bipush 123, 2) := by decide +kernel
theorem d1_33 : decode method_2_code 33 = .ok (.iastore, 1) := by decide +kernel
theorem d1_34 : decode method_2_code 34 = .ok (.dup, 1) := by decide +kernel
theorem d1_35 : decode method_2_code 35 = .ok (.bipush 6, 2) := by decide +kernel
theorem d1_37 : decode method_2_code 37 = .ok (.sipush 192, 3) := by decide +kernel
theorem d1_40 : decode method_2_code 40 = .ok (.iastore, 1) := by decide +kernel
theorem d1_41 : decode method_2_code 41 = .ok (.dup, 1) := by decide +kernel
theorem d1_42 : decode method_2_code 42 = .ok (.bipush 7, 2) := by decide +kernel
theorem d1_44 : decode method_2_code 44 = .ok (.sipush 215, 3) := by decide +kernel
theorem d1_47 : decode method_2_code 47 = .ok (.iastore, 1) := by decide +kernel
theorem d1_48 : decode method_2_code 48 = .ok (.dup, 1) := by decide +kernel
theorem d1_49 : decode method_2_code 49 = .ok (.bipush 8, 2) := by decide +kernel
theorem d1_51 : decode method_2_code 51 = .ok (.sipush 216, 3) := by decide +kernel
theorem d1_54 : decode method_2_code 54 = .ok (.iastore, 1) := by decide +kernel
theorem d1_55 : decode method_2_code 55 = .ok (.dup, 1) := by decide +kernel
theorem d1_56 : decode method_2_code 56 = .ok (.bipush 9, 2) := by decide +kernel
theorem d1_58 : decode method_2_code 58 = .ok (.sipush 247, 3) := by decide +kernel
theorem d1_61 : decode method_2_code 61 = .ok (.iastore, 1) := by decide +kernel
theorem d1_62 : decode method_2_code 62 = .ok (.dup, 1) := by decide +kernel
theorem d1_63 : decode method_2_code 63 = .ok (.bipush 10, 2) := by decide +kernel
theorem d1_65 : decode method_2_code 65 = .ok (.sipush 248, 3) := by decide +kernel
theorem d1_68 : decode method_2_code 68 = .ok (.iastore, 1) := by decide +kernel
theorem d1_69 : decode method_2_code 69 = .ok (.dup, 1) := by decide +kernel
theorem d1_70 : decode method_2_code 70 = .ok (.bipush 11, 2) := by decide +kernel
theorem d1_72 : decode method_2_code 72 = .ok (.sipush 768, 3) := by decide +kernel
theorem d1_75 : decode method_2_code 75 = .ok (.iastore, 1) := by decide +kernel
theorem d1_76 : decode method_2_code 76 = .ok (.dup, 1) := by decide +kernel
theorem d1_77 : decode method_2_code 77 = .ok (.bipush 12, 2) := by decide +kernel
theorem d1_79 : decode method_2_code 79 = .ok (.sipush 880, 3) := by decide +kernel
theorem d1_82 : decode method_2_code 82 = .ok (.iastore, 1) := by decide +kernel
theorem d1_83 : decode method_2_code 83 = .ok (.dup, 1) := by decide +kernel
theorem d1_84 : decode method_2_code 84 = .ok (.bipush 13, 2) := by decide +kernel
theorem d1_86 : decode method_2_code 86 = .ok (.sipush 894, 3) := by decide +kernel
theorem d1_89 : decode method_2_code 89 = .ok (.iastore, 1) := by decide +kernel
theorem d1_90 : decode method_2_code 90 = .ok (.dup, 1) := by decide +kernel
theorem d1_91 : decode method_2_code 91 = .ok (.bipush 14, 2) := by decide +kernel
theorem d1_93 : decode method_2_code 93 = .ok (.sipush 895, 3) := by decide +kernel
theorem d1_96 : decode method_2_code 96 = .ok (.iastore, 1) := by decide +kernel
theorem d1_97 : decode method_2_code 97 = .ok (.dup, 1) := by decide +kernel
theorem d1_98 : decode method_2_code 98 = .ok (.bipush 15, 2) := by decide +kernel
theorem d1_100 : decode method_2_code 100 = .ok (.sipush 8192, 3) := by decide +kernel
theorem d1_103 : decode method_2_code 103 = .ok (.iastore, 1) := by decide +kernel
theorem d1_104 : decode method_2_code 104 = .ok (.dup, 1) := by decide +kernel
theorem d1_105 : decode method_2_code 105 = .ok (.bipush 16, 2) := by decide +kernel
theorem d1_107 : decode method_2_code 107 = .ok (.sipush 8204, 3) := by decide +kernel
theorem d1_110 : decode method_2_code 110 = .ok (.iastore, 1) := by decide +kernel
theorem d1_111 : decode method_2_code 111 = .ok (.dup, 1) := by decide +kernel
theorem d1_112 : decode method_2_code 112 = .ok (.bipush 17, 2) := by decide +kernel
theorem d1_114 : decode method_2_code 114 = .ok (.sipush 8206, 3) := by decide +kernel
theorem d1_117 : decode method_2_code 117 = .ok (.iastore, 1) := by decide +kernel
theorem d1_118 : decode method_2_code 118 = .ok (.dup, 1) := by decide +kernel
theorem d1_119 : decode method_2_code 119 = .ok (.bipush 18, 2) := by decide +kernel
theorem d1_121 : decode method_2_code 121 = .ok (.sipush 8304, 3) := by decide +kernel
theorem d1_124 : decode method_2_code 124 = .ok (.iastore, 1) := by decide +kernel
theorem d1_125 : decode method_2_code 125 = .ok (.dup, 1) := by decide +kernel
theorem d1_126 : decode method_2_code 126 = .ok (.bipush 19, 2) := by decide +kernel
theorem d1_128 : decode method_2_code 128 = .ok (.sipush 8592, 3) := by decide +kernel
theorem d1_131 : decode method_2_code 131 = .ok (.iastore, 1) := by decide +kernel
theorem d1_132 : decode method_2_code 132 = .ok (.dup, 1) := by decide +kernel
theorem d1_133 : decode method_2_code 133 = .ok (.bipush 20, 2) := by decide +kernel
theorem d1_135 : decode method_2_code 135 = .ok (.sipush 11264, 3) := by decide +kernel
theorem d1_138 : decode method_2_code 138 = .ok (.iastore, 1) := by decide +kernel
theorem d1_139 : decode method_2_code 139 = .ok (.dup, 1) := by decide +kernel
theorem d1_140 : decode method_2_code 140 = .ok (.bipush 21, 2) := by decide +kernel
theorem d1_142 : decode method_2_code 142 = .ok (.sipush 12272, 3) := by decide +kernel
theorem d1_145 : decode method_2_code 145 = .ok (.iastore, 1) := by decide +kernel
theorem d1_146 : decode method_2_code 146 = .ok (.dup, 1) := by decide +kernel
theorem d1_147 : decode method_2_code 147 = .ok (.bipush 22, 2) := by decide +kernel
theorem d1_149 : decode method_2_code 149 = .ok (.sipush 12289, 3) := by decide +kernel
theorem d1_152 : decode method_2_code 152 = .ok (.iastore, 1) := by decide +kernel
theorem d1_153 : decode method_2_code 153 = .ok (.dup, 1) := by decide +kernel
theorem d1_154 : decode method_2_code 154 = .ok (.bipush 23, 2) := by decide +kernel
theorem d1_156 : decode method_2_code 156 = .ok (.ldc 7, 2) := by decide +kernel
theorem d1_158 : decode method_2_code 158 = .ok (.iastore, 1) := by decide +kernel
theorem d1_159 : decode method_2_code 159 = .ok (.dup, 1) := by decide +kernel
theorem d1_160 : decode method_2_code 160 = .ok (.bipush 24, 2) := by decide +kernel
theorem d1_162 : decode method_2_code 162 = .ok (.ldc 8, 2) := by decide +kernel
theorem d1_164 : decode method_2_code 164 = .ok (.iastore, 1) := by decide +kernel
theorem d1_165 : decode method_2_code 165 = .ok (.dup, 1) := by decide +kernel
theorem d1_166 : decode method_2_code 166 = .ok (.bipush 25, 2) := by decide +kernel
theorem d1_168 : decode method_2_code 168 = .ok (.ldc 9, 2) := by decide +kernel
theorem d1_170 : decode method_2_code 170 = .ok (.iastore, 1) := by decide +kernel
theorem d1_171 : decode method_2_code 171 = .ok (.dup, 1) := by decide +kernel
theorem d1_172 : decode method_2_code 172 = .ok (.bipush 26, 2) := by decide +kernel
theorem d1_174 : decode method_2_code 174 = .ok (.ldc 10, 2) := by decide +kernel
theorem d1_176 : decode method_2_code 176 = .ok (.iastore, 1) := by decide +kernel
theorem d1_177 : decode method_2_code 177 = .ok (.dup, 1) := by decide +kernel
theorem d1_178 : decode method_2_code 178 = .ok (.bipush 27, 2) := by decide +kernel
theorem d1_180 : decode method_2_code 180 = .ok (.ldc 11, 2) := by decide +kernel
theorem d1_182 : decode method_2_code 182 = .ok (.iastore, 1) := by decide +kernel
theorem d1_183 : decode method_2_code 183 = .ok (.dup, 1) := by decide +kernel
theorem d1_184 : decode method_2_code 184 = .ok (.bipush 28, 2) := by decide +kernel
theorem d1_186 : decode method_2_code 186 = .ok (.ldc 12, 2) := by decide +kernel
theorem d1_188 : decode method_2_code 188 = .ok (.iastore, 1) := by decide +kernel
theorem d1_189 : decode method_2_code 189 = .ok (.dup, 1) := by decide +kernel
theorem d1_190 : decode method_2_code 190 = .ok (.bipush 29, 2) := by decide +kernel
theorem d1_192 : decode method_2_code 192 = .ok (.ldc 13, 2) := by decide +kernel
theorem d1_194 : decode method_2_code 194 = .ok (.iastore, 1) := by decide +kernel
theorem d1_195 : decode method_2_code 195 = .ok (.dup, 1) := by decide +kernel
theorem d1_196 : decode method_2_code 196 = .ok (.bipush 30, 2) := by decide +kernel
theorem d1_198 : decode method_2_code 198 = .ok (.ldc 16, 2) := by decide +kernel
theorem d1_200 : decode method_2_code 200 = .ok (.iastore, 1) := by decide +kernel
theorem d1_201 : decode method_2_code 201 = .ok (.dup, 1) := by decide +kernel
theorem d1_202 : decode method_2_code 202 = .ok (.bipush 31, 2) := by decide +kernel
theorem d1_204 : decode method_2_code 204 = .ok (.ldc 16, 2) := by decide +kernel
theorem d1_206 : decode method_2_code 206 = .ok (.iastore, 1) := by decide +kernel
theorem d1_207 : decode method_2_code 207 = .ok (.areturn, 1) := by decide +kernel
theorem d2_0 : decode prog_47_method_4_code 0 = .ok (.iload_n 0, 1) := by decide +kernel
theorem d2_1 : decode prog_47_method_4_code 1 = .ok (.bipush 65, 2) := by decide +kernel
theorem d2_3 : decode prog_47_method_4_code 3 = .ok (.if_icmp .lt 9, 3) := by decide +kernel
theorem d2_6 : decode prog_47_method_4_code 6 = .ok (.iload_n 0, 1) := by decide +kernel
theorem d2_7 : decode prog_47_method_4_code 7 = .ok (.bipush 90, 2) := by decide +kernel
theorem d2_9 : decode prog_47_method_4_code 9 = .ok (.if_icmp .le 182, 3) := by decide +kernel
theorem d2_12 : decode prog_47_method_4_code 12 = .ok (.iload_n 0, 1) := by decide +kernel
theorem d2_13 : decode prog_47_method_4_code 13 = .ok (.bipush 95, 2) := by decide +kernel
theorem d2_15 : decode prog_47_method_4_code 15 = .ok (.if_icmp .eq 176, 3) := by decide +kernel
theorem d2_18 : decode prog_47_method_4_code 18 = .ok (.iload_n 0, 1) := by decide +kernel
theorem d2_19 : decode prog_47_method_4_code 19 = .ok (.bipush 97, 2) := by decide +kernel
theorem d2_21 : decode prog_47_method_4_code 21 = .ok (.if_icmp .lt 9, 3) := by decide +kernel
theorem d2_24 : decode prog_47_method_4_code 24 = .ok (.iload_n 0, 1) := by decide +kernel
theorem d2_25 : decode prog_47_method_4_code 25 = .ok (.bipush 122, 2) := by decide +kernel
theorem d2_27 : decode prog_47_method_4_code 27 = .ok (.if_icmp .le 164, 3) := by decide +kernel
theorem d2_30 : decode prog_47_method_4_code 30 = .ok (.iload_n 0, 1) := by decide +kernel
theorem d2_31 : decode prog_47_method_4_code 31 = .ok (.sipush 192, 3) := by decide +kernel
theorem d2_34 : decode prog_47_method_4_code 34 = .ok (.if_icmp .lt 10, 3) := by decide +kernel
theorem d2_37 : decode prog_47_method_4_code 37 = .ok (.iload_n 0, 1) := by decide +kernel
theorem d2_38 : decode prog_47_method_4_code 38 = .ok (.sipush 214, 3) := by decide +kernel
theorem d2_41 : decode prog_47_method_4_code 41 = .ok (.if_icmp .le 150, 3) := by decide +kernel
theorem d2_44 : decode prog_47_method_4_code 44 = .ok (.iload_n 0, 1) := by decide +kernel
theorem d2_45 : decode prog_47_method_4_code 45 = .ok (.sipush 216, 3) := by decide +kernel
theorem d2_48 : decode prog_47_method_4_code 48 = .ok (.if_icmp .lt 10, 3) := by decide +kernel
theorem d2_51 : decode prog_47_method_4_code 51 = .ok (.iload_n 0, 1) := by decide +kernel
theorem d2_52 : decode prog_47_method_4_code 52 = .ok (.sipush 246, 3) := by decide +kernel
theorem d2_55 : decode prog_47_method_4_code 55 = .ok (.if_icmp .le 136, 3) := by decide +kernel
theorem d2_58 : decode prog_47_method_4_code 58 = .ok (.iload_n 0, 1) := by decide +kernel
theorem d2_59 : decode prog_47_method_4_code 59 = .ok (.sipush 248, 3) := by decide +kernel
theorem d2_62 : decode prog_47_method_4_code 62 = .ok (.if_icmp .lt 10, 3) := by decide +kernel
theorem d2_65 : decode prog_47_method_4_code 65 = .ok (.iload_n 0, 1) := by decide +kernel
theorem d2_66 : decode prog_47_method_4_code 66 = .ok (.sipush 767, 3) := by decide +kernel
theorem d2_69 : decode prog_47_method_4_code 69 = .ok (.if_icmp .le 122, 3) := by decide +kernel
theorem d2_72 : decode prog_47_method_4_code 72 = .ok (.iload_n 0, 1) := by decide +kernel
theorem d2_73 : decode prog_47_method_4_code 73 = .ok (.sipush 880, 3) := by decide +kernel
theorem d2_76 : decode prog_47_method_4_code 76 = .ok (.if_icmp .lt 10, 3) := by decide +kernel
theorem d2_79 : decode prog_47_method_4_code 79 = .ok (.iload_n 0, 1) := by decide +kernel
theorem d2_80 : decode prog_47_method_4_code 80 = .ok (.sipush 893, 3) := by decide +kernel
theorem d2_83 : decode prog_47_method_4_code 83 = .ok (.if_icmp .le 108, 3) := by decide +kernel
theorem d2_86 : decode prog_47_method_4_code 86 = .ok (.iload_n 0, 1) := by decide +kernel
theorem d2_87 : decode prog_47_method_4_code 87 = .ok (.sipush 895, 3) := by decide +kernel
theorem d2_90 : decode prog_47_method_4_code 90 = .ok (.if_icmp .lt 10, 3) := by decide +kernel
theorem d2_93 : decode prog_47_method_4_code 93 = .ok (.iload_n 0, 1) := by decide +kernel
theorem d2_94 : decode prog_47_method_4_code 94 = .ok (.sipush 8191, 3) := by decide +kernel
theorem d2_97 : decode prog_47_method_4_code 97 = .ok (.if_icmp .le 94, 3) := by decide +kernel
theorem d2_100 : decode prog_47_method_4_code 100 = .ok (.iload_n 0, 1) := by decide +kernel
theorem d2_101 : decode prog_47_method_4_code 101 = .ok (.sipush 8204, 3) := by decide +kernel
theorem d2_104 : decode prog_47_method_4_code 104 = .ok (.if_icmp .lt 10, 3) := by decide +kernel
theorem d2_107 : decode prog_47_method_4_code 107 = .ok (.iload_n 0, 1) := by decide +kernel
theorem d2_108 : decode prog_47_method_4_code 108 = .ok (.sipush 8205, 3) := by decide +kernel
theorem d2_111 : decode prog_47_method_4_code 111 = .ok (.if_icmp .le 80, 3) := by decide +kernel
theorem d2_114 : decode prog_47_method_4_code 114 = .ok (.iload_n 0, 1) := by decide +kernel
theorem d2_115 : decode prog_47_method_4_code 115 = .ok (.sipush 8304, 3) := by decide +kernel
theorem d2_118 : decode prog_47_method_4_code 118 = .ok (.if_icmp .lt 10, 3) := by decide +kernel
theorem d2_121 : decode prog_47_method_4_code 121 = .ok (.iload_n 0, 1) := by decide +kernel
theorem d2_122 : decode prog_47_method_4_code 122 = .ok (.sipush 8591, 3) := by decide +kernel
theorem d2_125 : decode prog_47_method_4_code 125 = .ok (.if_icmp .le 66, 3) := by decide +kernel
theorem d2_128 : decode prog_47_method_4_code 128 = .ok (.iload_n 0, 1) := by decide +kernel
theorem d2_129 : decode prog_47_method_4_code 129 = .ok (.sipush 11264, 3) := by decide +kernel
theorem d2_132 : decode prog_47_method_4_code 132 = .ok (.if_icmp .lt 10, 3) := by decide +kernel
theorem d2_135 : decode prog_47_method_4_code 135 = .ok (.iload_n 0, 1) := by decide +kernel
theorem d2_136 : decode prog_47_method_4_code 136 = .ok (.sipush 12271, 3) := by decide +kernel
theorem d2_139 : decode prog_47_method_4_code 139 = .ok (.if_icmp .le 52, 3) := by decide +kernel
theorem d2_142 : decode prog_47_method_4_code 142 = .ok (.iload_n 0, 1) := by decide +kernel
theorem d2_143 : decode prog_47_method_4_code 143 = .ok (.sipush 12289, 3) := by decide +kernel
theorem d2_146 : decode prog_47_method_4_code 146 = .ok (.if_icmp .lt 9, 3) := by decide +kernel
theorem d2_149 : decode prog_47_method_4_code 149 = .ok (.iload_n 0, 1) := by decide +kernel
theorem d2_150 : decode prog_47_method_4_code 150 = .ok (.ldc 35, 2) := by decide +kernel
theorem d2_152 : decode prog_47_method_4_code 152 = .ok (.if_icmp .le 39, 3) := by decide +kernel
theorem d2_155 : decode prog_47_method_4_code 155 = .ok (.iload_n 0, 1) := by decide +kernel
theorem d2_156 : decode prog_47_method_4_code 156 = .ok (.ldc 40, 2) := by decide +kernel
theorem d2_158 : decode prog_47_method_4_code 158 = .ok (.if_icmp .lt 9, 3) := by decide +kernel
theorem d2_161 : decode prog_47_method_4_code 161 = .ok (.iload_n 0, 1) := by decide +kernel
theorem d2_162 : decode prog_47_method_4_code 162 = .ok (.ldc 41, 2) := by decide +kernel
theorem d2_164 : decode prog_47_method_4_code 164 = .ok (.if_icmp .le 27, 3) := by decide +kernel
theorem d2_167 : decode prog_47_method_4_code 167 = .ok (.iload_n 0, 1) := by decide +kernel
theorem d2_168 : decode prog_47_method_4_code 168 = .ok (.ldc 42, 2) := by decide +kernel
theorem d2_170 : decode prog_47_method_4_code 170 = .ok (.if_icmp .lt 9, 3) := by decide +kernel
theorem d2_173 : decode prog_47_method_4_code 173 = .ok (.iload_n 0, 1) := by decide +kernel
theorem d2_174 : decode prog_47_method_4_code 174 = .ok (.ldc 37, 2) := by decide +kernel
theorem d2_176 : decode prog_47_method_4_code 176 = .ok (.if_icmp .le 15, 3) := by decide +kernel
theorem d2_179 : decode prog_47_method_4_code 179 = .ok (.iload_n 0, 1) := by decide +kernel
theorem d2_180 : decode prog_47_method_4_code 180 = .ok (.ldc 38, 2) := by decide +kernel
theorem d2_182 : decode prog_47_method_4_code 182 = .ok (.if_icmp .lt 13, 3) := by decide +kernel
theorem d2_185 : decode prog_47_method_4_code 185 = .ok (.iload_n 0, 1) := by decide +kernel
theorem d2_186 : decode prog_47_method_4_code 186 = .ok (.ldc 43, 2) := by decide +kernel
theorem d2_188 : decode prog_47_method_4_code 188 = .ok (.if_icmp .gt 7, 3) := by decide +kernel
theorem d2_191 : decode prog_47_method_4_code 191 = .ok (.iconst 1, 1) := by decide +kernel
theorem d2_192 : decode prog_47_method_4_code 192 = .ok (.goto 4, 3) := by decide +kernel
theorem d2_195 : decode prog_47_method_4_code 195 = .ok (.iconst 0, 1) := by decide +kernel
theorem d2_196 : decode prog_47_method_4_code 196 = .ok (.ireturn, 1) := by decide +kernel
theorem d3_0 : decode method_4_code 0 = .ok (.aload_n 0, 1) := by decide +kernel
theorem d3_1 : decode method_4_code 1 = .ok (.iload_n 1, 1) := by decide +kernel
theorem d3_2 : decode method_4_code 2 = .ok (.invokestatic 17, 3) := by decide +kernel
theorem d3_5 : decode method_4_code 5 = .ok (.iconst 1, 1) := by decide +kernel
theorem d3_6 : decode method_4_code 6 = .ok (.iand, 1) := by decide +kernel
theorem d3_7 : decode method_4_code 7 = .ok (.iconst 1, 1) := by decide +kernel
theorem d3_8 : decode method_4_code 8 = .ok (.if_icmp .ne 7, 3) := by decide +kernel
theorem d3_11 : decode method_4_code 11 = .ok (.iconst 1, 1) := by decide +kernel
theorem d3_12 : decode method_4_code 12 = .ok (.goto 4, 3) := by decide +kernel
theorem d3_15 : decode method_4_code 15 = .ok (.iconst 0, 1) := by decide +kernel
theorem d3_16 : decode method_4_code 16 = .ok (.ireturn, 1) := by decide +kernel
theorem d4_0 : decode method_3_code 0 = .ok (.iload_n 1, 1) := by decide +kernel
theorem d4_1 : decode method_3_code 1 = .ok (.aload_n 0, 1) := by decide +kernel
theorem d4_2 : decode method_3_code 2 = .ok (.iconst 0, 1) := by decide +kernel
theorem d4_3 : decode method_3_code 3 = .ok (.iaload, 1) := by decide +kernel
theorem d4_4 : decode method_3_code 4 = .ok (.if_icmp .ge 5, 3) := by decide +kernel
theorem d4_7 : decode method_3_code 7 = .ok (.iconst 0, 1) := by decide +kernel
theorem d4_8 : decode method_3_code 8 = .ok (.ireturn, 1) := by decide +kernel
theorem d4_9 : decode method_3_code 9 = .ok (.iconst 0, 1) := by decide +kernel
theorem d4_10 : decode method_3_code 10 = .ok (.istore_n 2, 1) := by decide +kernel
theorem d4_11 : decode method_3_code 11 = .ok (.iload_n 1, 1) := by decide +kernel
theorem d4_12 : decode method_3_code 12 = .ok (.aload_n 0, 1) := by decide +kernel
theorem d4_13 : decode method_3_code 13 = .ok (.iload_n 2, 1) := by decide +kernel
theorem d4_14 : decode method_3_code 14 = .ok (.bipush 16, 2) := by decide +kernel
theorem d4_16 : decode method_3_code 16 = .ok (.iadd, 1) := by decide +kernel
theorem d4_17 : decode method_3_code 17 = .ok (.iaload, 1) := by decide +kernel
theorem d4_18 : decode method_3_code 18 = .ok (.if_icmp .lt 6, 3) := by decide +kernel
theorem d4_21 : decode method_3_code 21 = .ok (.iinc 2 16, 3) := by decide +kernel
theorem d4_24 : decode method_3_code 24 = .ok (.iload_n 1, 1) := by decide +kernel
theorem d4_25 : decode method_3_code 25 = .ok (.aload_n 0, 1) := by decide +kernel
theorem d4_26 : decode method_3_code 26 = .ok (.iload_n 2, 1) := by decide +kernel
theorem d4_27 : decode method_3_code 27 = .ok (.bipush 8, 2) := by decide +kernel
theorem d4_29 : decode method_3_code 29 = .ok (.iadd, 1) := by decide +kernel
theorem d4_30 : decode method_3_code 30 = .ok (.iaload, 1) := by decide +kernel
theorem d4_31 : decode method_3_code 31 = .ok (.if_icmp .lt 6, 3) := by decide +kernel
theorem d4_34 : decode method_3_code 34 = .ok (.iinc 2 8, 3) := by decide +kernel
theorem d4_37 : decode method_3_code 37 = .ok (.iload_n 1, 1) := by decide +kernel
theorem d4_38 : decode method_3_code 38 = .ok (.aload_n 0, 1) := by decide +kernel
theorem d4_39 : decode method_3_code 39 = .ok (.iload_n 2, 1) := by decide +kernel
theorem d4_40 : decode method_3_code 40 = .ok (.iconst 4, 1) := by decide +kernel
theorem d4_41 : decode method_3_code 41 = .ok (.iadd, 1) := by decide +kernel
theorem d4_42 : decode method_3_code 42 = .ok (.iaload, 1) := by decide +kernel
theorem d4_43 : decode method_3_code 43 = .ok (.if_icmp .lt 6, 3) := by decide +kernel
theorem d4_46 : decode method_3_code 46 = .ok (.iinc 2 4, 3) := by decide +kernel
theorem d4_49 : decode method_3_code 49 = .ok (.iload_n 1, 1) := by decide +kernel
theorem d4_50 : decode method_3_code 50 = .ok (.aload_n 0, 1) := by decide +kernel
theorem d4_51 : decode method_3_code 51 = .ok (.iload_n 2, 1) := by decide +kernel
theorem d4_52 : decode method_3_code 52 = .ok (.iconst 2, 1) := by decide +kernel
theorem d4_53 : decode method_3_code 53 = .ok (.iadd, 1) := by decide +kernel
theorem d4_54 : decode method_3_code 54 = .ok (.iaload, 1) := by decide +kernel
theorem d4_55 : decode method_3_code 55 = .ok (.if_icmp .lt 6, 3) := by decide +kernel
theorem d4_58 : decode method_3_code 58 = .ok (.iinc 2 2, 3) := by decide +kernel
theorem d4_61 : decode method_3_code 61 = .ok (.iload_n 1, 1) := by decide +kernel
theorem d4_62 : decode method_3_code 62 = .ok (.aload_n 0, 1) := by decide +kernel
theorem d4_63 : decode method_3_code 63 = .ok (.iload_n 2, 1) := by decide +kernel
theorem d4_64 : decode method_3_code 64 = .ok (.iconst 1, 1) := by decide +kernel
theorem d4_65 : decode method_3_code 65 = .ok (.iadd, 1) := by decide +kernel
theorem d4_66 : decode method_3_code 66 = .ok (.iaload, 1) := by decide +kernel
theorem d4_67 : decode method_3_code 67 = .ok (.if_icmp .lt 6, 3) := by decide +kernel
theorem d4_70 : decode method_3_code 70 = .ok (.iinc 2 1, 3) := by decide +kernel
theorem d4_73 : decode method_3_code 73 = .ok (.iload_n 2, 1) := by decide +kernel
theorem d4_74 : decode method_3_code 74 = .ok (.iconst 1, 1) := by decide +kernel
theorem d4_75 : decode method_3_code 75 = .ok (.iadd, 1) := by decide +kernel
theorem d4_76 : decode method_3_code 76 = .ok (.ireturn, 1) := by decide +kernel
def B0 : Bod := ("com/example/chronoxyl/chronoxyl/history/XmlIsNameStartPinLaw", "law", code, maxLocals, ret, room_1)
theorem pl0 : plainFor (⟨"com/example/chronoxyl/chronoxyl/history/XmlIsNameStartPinLaw", "law", "(II)Z"⟩ : MethodName) = true := plainFor_of_name (by first | (simp [plainName, overriddenIn]; done) | decide +kernel)
def B1 : Bod := ("com/example/chronoxyl/chronoxyl/history/XmlIsNameStartPinLaw", "edges", method_2_code, 0, some (.array .int), ({ frames := 0, cells := 1, slots := 32, locals := 0 } : Room))
theorem pl1 : plainFor (⟨"com/example/chronoxyl/chronoxyl/history/XmlIsNameStartPinLaw", "edges", "()[I"⟩ : MethodName) = true := plainFor_of_name (by first | (simp [plainName, overriddenIn]; done) | decide +kernel)
def B2 : Bod := ("com/example/chronoxyl/chronoxyl/history/Xml", "isNameStart", prog_47_method_4_code, 1, some .boolean, ({ frames := 0, cells := 0, slots := 0, locals := 0 } : Room))
theorem pl2 : plainFor (⟨"com/example/chronoxyl/chronoxyl/history/Xml", "isNameStart", "(I)Z"⟩ : MethodName) = true := plainFor_of_name (by first | (simp [plainName, overriddenIn]; done) | decide +kernel)
def B3 : Bod := ("com/example/chronoxyl/chronoxyl/history/XmlIsNameStartPinLaw", "reference", method_4_code, 2, some .boolean, ({ frames := 1, cells := 0, slots := 0, locals := 14 } : Room))
theorem pl3 : plainFor (⟨"com/example/chronoxyl/chronoxyl/history/XmlIsNameStartPinLaw", "reference", "([II)Z"⟩ : MethodName) = true := plainFor_of_name (by first | (simp [plainName, overriddenIn]; done) | decide +kernel)
def B4 : Bod := ("com/example/chronoxyl/chronoxyl/history/XmlIsNameStartPinLaw", "countAtMost", method_3_code, 3, some .int, ({ frames := 0, cells := 0, slots := 0, locals := 0 } : Room))
theorem pl4 : plainFor (⟨"com/example/chronoxyl/chronoxyl/history/XmlIsNameStartPinLaw", "countAtMost", "([II)I"⟩ : MethodName) = true := plainFor_of_name (by first | (simp [plainName, overriddenIn]; done) | decide +kernel)
def PN (k : Int) : Prop := (65 ≤ k ∧ k ≤ 90) ∨ (95 ≤ k ∧ k ≤ 95) ∨ (97 ≤ k ∧ k ≤ 122) ∨ (192 ≤ k ∧ k ≤ 214) ∨ (216 ≤ k ∧ k ≤ 246) ∨ (248 ≤ k ∧ k ≤ 767) ∨ (880 ≤ k ∧ k ≤ 893) ∨ (895 ≤ k ∧ k ≤ 8191) ∨ (8204 ≤ k ∧ k ≤ 8205) ∨ (8304 ≤ k ∧ k ≤ 8591) ∨ (11264 ≤ k ∧ k ≤ 12271) ∨ (12289 ≤ k ∧ k ≤ 55295) ∨ (63744 ≤ k ∧ k ≤ 64975) ∨ (65008 ≤ k ∧ k ≤ 65533) ∨ (65536 ≤ k ∧ k ≤ 983039)
def EV : List Value := [.int 65, .int 91, .int 95, .int 96, .int 97, .int 123, .int 192, .int 215, .int 216, .int 247, .int 248, .int 768, .int 880, .int 894, .int 895, .int 8192, .int 8204, .int 8206, .int 8304, .int 8592, .int 11264, .int 12272, .int 12289, .int 55296, .int 63744, .int 64976, .int 65008, .int 65534, .int 65536, .int 983040, .int 2147483647, .int 2147483647]
theorem edg_met {l : Launch} {Z : State} {a0 : Array Value} (hw : HW Z a0) {n0 : Nat} {h : Heap}  : OMet l (⟨"com/example/chronoxyl/chronoxyl/history/XmlIsNameStartPinLaw", "edges", "()[I"⟩ : MethodName) B1 Z n0 #[] h (fun v h' => ∃ b : Addr, v = some (.ref b) ∧ n0 ≤ b ∧ Av Z h' b .int EV) := by
  refine OMet.of_wp (ls0 := #[]) pl1 rfl rfl (fun m => by first | rfl | (simp [entryFrame, mkF, argsToLocals, Value.category, B1]; done)) ?_
  have k32_0 : (0 : Int32).toInt = 0 := by decide
  have k32_1 : (1 : Int32).toInt = 1 := by decide
  have k32_2 : (2 : Int32).toInt = 2 := by decide
  have k32_3 : (3 : Int32).toInt = 3 := by decide
  have k32_4 : (4 : Int32).toInt = 4 := by decide
  have k32_5 : (5 : Int32).toInt = 5 := by decide
  have k32_6 : (6 : Int32).toInt = 6 := by decide
  have k32_7 : (7 : Int32).toInt = 7 := by decide
  have k32_8 : (8 : Int32).toInt = 8 := by decide
  have k32_9 : (9 : Int32).toInt = 9 := by decide
  have k32_10 : (10 : Int32).toInt = 10 := by decide
  have k32_11 : (11 : Int32).toInt = 11 := by decide
  have k32_12 : (12 : Int32).toInt = 12 := by decide
  have k32_13 : (13 : Int32).toInt = 13 := by decide
  have k32_14 : (14 : Int32).toInt = 14 := by decide
  have k32_15 : (15 : Int32).toInt = 15 := by decide
  have k32_16 : (16 : Int32).toInt = 16 := by decide
  have k32_17 : (17 : Int32).toInt = 17 := by decide
  have k32_18 : (18 : Int32).toInt = 18 := by decide
  have k32_19 : (19 : Int32).toInt = 19 := by decide
  have k32_20 : (20 : Int32).toInt = 20 := by decide
  have k32_21 : (21 : Int32).toInt = 21 := by decide
  have k32_22 : (22 : Int32).toInt = 22 := by decide
  have k32_23 : (23 : Int32).toInt = 23 := by decide
  have k32_24 : (24 : Int32).toInt = 24 := by decide
  have k32_25 : (25 : Int32).toInt = 25 := by decide
  have k32_26 : (26 : Int32).toInt = 26 := by decide
  have k32_27 : (27 : Int32).toInt = 27 := by decide
  have k32_28 : (28 : Int32).toInt = 28 := by decide
  have k32_29 : (29 : Int32).toInt = 29 := by decide
  have k32_30 : (30 : Int32).toInt = 30 := by decide
  have k32_31 : (31 : Int32).toInt = 31 := by decide
  have k32_32 : (32 : Int32).toInt = 32 := by decide
  have k32_65 : (65 : Int32).toInt = 65 := by decide
  have k32_91 : (91 : Int32).toInt = 91 := by decide
  have k32_95 : (95 : Int32).toInt = 95 := by decide
  have k32_96 : (96 : Int32).toInt = 96 := by decide
  have k32_97 : (97 : Int32).toInt = 97 := by decide
  have k32_123 : (123 : Int32).toInt = 123 := by decide
  have k32_192 : (192 : Int32).toInt = 192 := by decide
  have k32_215 : (215 : Int32).toInt = 215 := by decide
  have k32_216 : (216 : Int32).toInt = 216 := by decide
  have k32_247 : (247 : Int32).toInt = 247 := by decide
  have k32_248 : (248 : Int32).toInt = 248 := by decide
  have k32_768 : (768 : Int32).toInt = 768 := by decide
  have k32_880 : (880 : Int32).toInt = 880 := by decide
  have k32_894 : (894 : Int32).toInt = 894 := by decide
  have k32_895 : (895 : Int32).toInt = 895 := by decide
  have k32_8192 : (8192 : Int32).toInt = 8192 := by decide
  have k32_8204 : (8204 : Int32).toInt = 8204 := by decide
  have k32_8206 : (8206 : Int32).toInt = 8206 := by decide
  have k32_8304 : (8304 : Int32).toInt = 8304 := by decide
  have k32_8592 : (8592 : Int32).toInt = 8592 := by decide
  have k32_11264 : (11264 : Int32).toInt = 11264 := by decide
  have k32_12272 : (12272 : Int32).toInt = 12272 := by decide
  have k32_12289 : (12289 : Int32).toInt = 12289 := by decide
  have k32_55296 : (55296 : Int32).toInt = 55296 := by decide
  have k32_63744 : (63744 : Int32).toInt = 63744 := by decide
  have k32_64976 : (64976 : Int32).toInt = 64976 := by decide
  have k32_65008 : (65008 : Int32).toInt = 65008 := by decide
  have k32_65534 : (65534 : Int32).toInt = 65534 := by decide
  have k32_65536 : (65536 : Int32).toInt = 65536 := by decide
  have k32_983040 : (983040 : Int32).toInt = 983040 := by decide
  have k32_2147483647 : (2147483647 : Int32).toInt = 2147483647 := by decide
  refine WP.bipush d1_0 (z := (32 : Int32)) rfl (pc' := 2) rfl ?_
  refine WP.newarr d1_2 (w4 hw) (k := 32) rfl 32 (by decide) (by decide) (by decide) (by decide) (pc' := 4) rfl ?_
  intro b1 h1 eb_b1 g_b1 K2 A_b1
  replace A_b1 : Av Z h1 b1 .int [.int 0, .int 0, .int 0, .int 0, .int 0, .int 0, .int 0, .int 0, .int 0, .int 0, .int 0, .int 0, .int 0, .int 0, .int 0, .int 0, .int 0, .int 0, .int 0, .int 0, .int 0, .int 0, .int 0, .int 0, .int 0, .int 0, .int 0, .int 0, .int 0, .int 0, .int 0, .int 0] := A_b1
  refine WP.dup d1_4 rfl (pc' := 5) rfl ?_
  refine WP.iconst d1_5 (z := (0 : Int32)) rfl (pc' := 6) rfl ?_
  refine WP.bipush d1_6 (z := (65 : Int32)) rfl (pc' := 8) rfl ?_
  refine WP.iastore 0 d1_8 A_b1 rfl (by decide) g_b1 (pc' := 9) rfl ?_
  intro h3 K4 A_n
  replace A_b1 : Av Z h3 b1 .int [(.int (65 : Int32)), (.int 0), (.int 0), (.int 0), (.int 0), (.int 0), (.int 0), (.int 0), (.int 0), (.int 0), (.int 0), (.int 0), (.int 0), (.int 0), (.int 0), (.int 0), (.int 0), (.int 0), (.int 0), (.int 0), (.int 0), (.int 0), (.int 0), (.int 0), (.int 0), (.int 0), (.int 0), (.int 0), (.int 0), (.int 0), (.int 0), (.int 0)] := A_n
  clear A_n
  refine WP.dup d1_9 rfl (pc' := 10) rfl ?_
  refine WP.iconst d1_10 (z := (1 : Int32)) rfl (pc' := 11) rfl ?_
  refine WP.bipush d1_11 (z := (91 : Int32)) rfl (pc' := 13) rfl ?_
  refine WP.iastore 1 d1_13 A_b1 rfl (by decide) g_b1 (pc' := 14) rfl ?_
  intro h5 K6 A_n
  replace A_b1 : Av Z h5 b1 .int [(.int (65 : Int32)), (.int (91 : Int32)), (.int 0), (.int 0), (.int 0), (.int 0), (.int 0), (.int 0), (.int 0), (.int 0), (.int 0), (.int 0), (.int 0), (.int 0), (.int 0), (.int 0), (.int 0), (.int 0), (.int 0), (.int 0), (.int 0), (.int 0), (.int 0), (.int 0), (.int 0), (.int 0), (.int 0), (.int 0), (.int 0), (.int 0), (.int 0), (.int 0)] := A_n
  clear A_n
  refine WP.dup d1_14 rfl (pc' := 15) rfl ?_
  refine WP.iconst d1_15 (z := (2 : Int32)) rfl (pc' := 16) rfl ?_
  refine WP.bipush d1_16 (z := (95 : Int32)) rfl (pc' := 18) rfl ?_
  refine WP.iastore 2 d1_18 A_b1 rfl (by decide) g_b1 (pc' := 19) rfl ?_
  intro h7 K8 A_n
  replace A_b1 : Av Z h7 b1 .int [(.int (65 : Int32)), (.int (91 : Int32)), (.int (95 : Int32)), (.int 0), (.int 0), (.int 0), (.int 0), (.int 0), (.int 0), (.int 0), (.int 0), (.int 0), (.int 0), (.int 0), (.int 0), (.int 0), (.int 0), (.int 0), (.int 0), (.int 0), (.int 0), (.int 0), (.int 0), (.int 0), (.int 0), (.int 0), (.int 0), (.int 0), (.int 0), (.int 0), (.int 0), (.int 0)] := A_n
  clear A_n
  refine WP.dup d1_19 rfl (pc' := 20) rfl ?_
  refine WP.iconst d1_20 (z := (3 : Int32)) rfl (pc' := 21) rfl ?_
  refine WP.bipush d1_21 (z := (96 : Int32)) rfl (pc' := 23) rfl ?_
  refine WP.iastore 3 d1_23 A_b1 rfl (by decide) g_b1 (pc' := 24) rfl ?_
  intro h9 K10 A_n
  replace A_b1 : Av Z h9 b1 .int [(.int (65 : Int32)), (.int (91 : Int32)), (.int (95 : Int32)), (.int (96 : Int32)), (.int 0), (.int 0), (.int 0), (.int 0), (.int 0), (.int 0), (.int 0), (.int 0), (.int 0), (.int 0), (.int 0), (.int 0), (.int 0), (.int 0), (.int 0), (.int 0), (.int 0), (.int 0), (.int 0), (.int 0), (.int 0), (.int 0), (.int 0), (.int 0), (.int 0), (.int 0), (.int 0), (.int 0)] := A_n
  clear A_n
  refine WP.dup d1_24 rfl (pc' := 25) rfl ?_
  refine WP.iconst d1_25 (z := (4 : Int32)) rfl (pc' := 26) rfl ?_
  refine WP.bipush d1_26 (z := (97 : Int32)) rfl (pc' := 28) rfl ?_
  refine WP.iastore 4 d1_28 A_b1 rfl (by decide) g_b1 (pc' := 29) rfl ?_
  intro h11 K12 A_n
  replace A_b1 : Av Z h11 b1 .int [(.int (65 : Int32)), (.int (91 : Int32)), (.int (95 : Int32)), (.int (96 : Int32)), (.int (97 : Int32)), (.int 0), (.int 0), (.int 0), (.int 0), (.int 0), (.int 0), (.int 0), (.int 0), (.int 0), (.int 0), (.int 0), (.int 0), (.int 0), (.int 0), (.int 0), (.int 0), (.int 0), (.int 0), (.int 0), (.int 0), (.int 0), (.int 0), (.int 0), (.int 0), (.int 0), (.int 0), (.int 0)] := A_n
  clear A_n
  refine WP.dup d1_29 rfl (pc' := 30) rfl ?_
  refine WP.iconst d1_30 (z := (5 : Int32)) rfl (pc' := 31) rfl ?_
  refine WP.bipush d1_31 (z := (123 : Int32)) rfl (pc' := 33) rfl ?_
  refine WP.iastore 5 d1_33 A_b1 rfl (by decide) g_b1 (pc' := 34) rfl ?_
  intro h13 K14 A_n
  replace A_b1 : Av Z h13 b1 .int [(.int (65 : Int32)), (.int (91 : Int32)), (.int (95 : Int32)), (.int (96 : Int32)), (.int (97 : Int32)), (.int (123 : Int32)), (.int 0), (.int 0), (.int 0), (.int 0), (.int 0), (.int 0), (.int 0), (.int 0), (.int 0), (.int 0), (.int 0), (.int 0), (.int 0), (.int 0), (.int 0), (.int 0), (.int 0), (.int 0), (.int 0), (.int 0), (.int 0), (.int 0), (.int 0), (.int 0), (.int 0), (.int 0)] := A_n
  clear A_n
  refine WP.dup d1_34 rfl (pc' := 35) rfl ?_
  refine WP.bipush d1_35 (z := (6 : Int32)) rfl (pc' := 37) rfl ?_
  refine WP.sipush d1_37 (z := (192 : Int32)) rfl (pc' := 40) rfl ?_
  refine WP.iastore 6 d1_40 A_b1 rfl (by decide) g_b1 (pc' := 41) rfl ?_
  intro h15 K16 A_n
  replace A_b1 : Av Z h15 b1 .int [(.int (65 : Int32)), (.int (91 : Int32)), (.int (95 : Int32)), (.int (96 : Int32)), (.int (97 : Int32)), (.int (123 : Int32)), (.int (192 : Int32)), (.int 0), (.int 0), (.int 0), (.int 0), (.int 0), (.int 0), (.int 0), (.int 0), (.int 0), (.int 0), (.int 0), (.int 0), (.int 0), (.int 0), (.int 0), (.int 0), (.int 0), (.int 0), (.int 0), (.int 0), (.int 0), (.int 0), (.int 0), (.int 0), (.int 0)] := A_n
  clear A_n
  refine WP.dup d1_41 rfl (pc' := 42) rfl ?_
  refine WP.bipush d1_42 (z := (7 : Int32)) rfl (pc' := 44) rfl ?_
  refine WP.sipush d1_44 (z := (215 : Int32)) rfl (pc' := 47) rfl ?_
  refine WP.iastore 7 d1_47 A_b1 rfl (by decide) g_b1 (pc' := 48) rfl ?_
  intro h17 K18 A_n
  replace A_b1 : Av Z h17 b1 .int [(.int (65 : Int32)), (.int (91 : Int32)), (.int (95 : Int32)), (.int (96 : Int32)), (.int (97 : Int32)), (.int (123 : Int32)), (.int (192 : Int32)), (.int (215 : Int32)), (.int 0), (.int 0), (.int 0), (.int 0), (.int 0), (.int 0), (.int 0), (.int 0), (.int 0), (.int 0), (.int 0), (.int 0), (.int 0), (.int 0), (.int 0), (.int 0), (.int 0), (.int 0), (.int 0), (.int 0), (.int 0), (.int 0), (.int 0), (.int 0)] := A_n
  clear A_n
  refine WP.dup d1_48 rfl (pc' := 49) rfl ?_
  refine WP.bipush d1_49 (z := (8 : Int32)) rfl (pc' := 51) rfl ?_
  refine WP.sipush d1_51 (z := (216 : Int32)) rfl (pc' := 54) rfl ?_
  refine WP.iastore 8 d1_54 A_b1 rfl (by decide) g_b1 (pc' := 55) rfl ?_
  intro h19 K20 A_n
  replace A_b1 : Av Z h19 b1 .int [(.int (65 : Int32)), (.int (91 : Int32)), (.int (95 : Int32)), (.int (96 : Int32)), (.int (97 : Int32)), (.int (123 : Int32)), (.int (192 : Int32)), (.int (215 : Int32)), (.int (216 : Int32)), (.int 0), (.int 0), (.int 0), (.int 0), (.int 0), (.int 0), (.int 0), (.int 0), (.int 0), (.int 0), (.int 0), (.int 0), (.int 0), (.int 0), (.int 0), (.int 0), (.int 0), (.int 0), (.int 0), (.int 0), (.int 0), (.int 0), (.int 0)] := A_n
  clear A_n
  refine WP.dup d1_55 rfl (pc' := 56) rfl ?_
  refine WP.bipush d1_56 (z := (9 : Int32)) rfl (pc' := 58) rfl ?_
  refine WP.sipush d1_58 (z := (247 : Int32)) rfl (pc' := 61) rfl ?_
  refine WP.iastore 9 d1_61 A_b1 rfl (by decide) g_b1 (pc' := 62) rfl ?_
  intro h21 K22 A_n
  replace A_b1 : Av Z h21 b1 .int [(.int (65 : Int32)), (.int (91 : Int32)), (.int (95 : Int32)), (.int (96 : Int32)), (.int (97 : Int32)), (.int (123 : Int32)), (.int (192 : Int32)), (.int (215 : Int32)), (.int (216 : Int32)), (.int (247 : Int32)), (.int 0), (.int 0), (.int 0), (.int 0), (.int 0), (.int 0), (.int 0), (.int 0), (.int 0), (.int 0), (.int 0), (.int 0), (.int 0), (.int 0), (.int 0), (.int 0), (.int 0), (.int 0), (.int 0), (.int 0), (.int 0), (.int 0)] := A_n
  clear A_n
  refine WP.dup d1_62 rfl (pc' := 63) rfl ?_
  refine WP.bipush d1_63 (z := (10 : Int32)) rfl (pc' := 65) rfl ?_
  refine WP.sipush d1_65 (z := (248 : Int32)) rfl (pc' := 68) rfl ?_
  refine WP.iastore 10 d1_68 A_b1 rfl (by decide) g_b1 (pc' := 69) rfl ?_
  intro h23 K24 A_n
  replace A_b1 : Av Z h23 b1 .int [(.int (65 : Int32)), (.int (91 : Int32)), (.int (95 : Int32)), (.int (96 : Int32)), (.int (97 : Int32)), (.int (123 : Int32)), (.int (192 : Int32)), (.int (215 : Int32)), (.int (216 : Int32)), (.int (247 : Int32)), (.int (248 : Int32)), (.int 0), (.int 0), (.int 0), (.int 0), (.int 0), (.int 0), (.int 0), (.int 0), (.int 0), (.int 0), (.int 0), (.int 0), (.int 0), (.int 0), (.int 0), (.int 0), (.int 0), (.int 0), (.int 0), (.int 0), (.int 0)] := A_n
  clear A_n
  refine WP.dup d1_69 rfl (pc' := 70) rfl ?_
  refine WP.bipush d1_70 (z := (11 : Int32)) rfl (pc' := 72) rfl ?_
  refine WP.sipush d1_72 (z := (768 : Int32)) rfl (pc' := 75) rfl ?_
  refine WP.iastore 11 d1_75 A_b1 rfl (by decide) g_b1 (pc' := 76) rfl ?_
  intro h25 K26 A_n
  replace A_b1 : Av Z h25 b1 .int [(.int (65 : Int32)), (.int (91 : Int32)), (.int (95 : Int32)), (.int (96 : Int32)), (.int (97 : Int32)), (.int (123 : Int32)), (.int (192 : Int32)), (.int (215 : Int32)), (.int (216 : Int32)), (.int (247 : Int32)), (.int (248 : Int32)), (.int (768 : Int32)), (.int 0), (.int 0), (.int 0), (.int 0), (.int 0), (.int 0), (.int 0), (.int 0), (.int 0), (.int 0), (.int 0), (.int 0), (.int 0), (.int 0), (.int 0), (.int 0), (.int 0), (.int 0), (.int 0), (.int 0)] := A_n
  clear A_n
  refine WP.dup d1_76 rfl (pc' := 77) rfl ?_
  refine WP.bipush d1_77 (z := (12 : Int32)) rfl (pc' := 79) rfl ?_
  refine WP.sipush d1_79 (z := (880 : Int32)) rfl (pc' := 82) rfl ?_
  refine WP.iastore 12 d1_82 A_b1 rfl (by decide) g_b1 (pc' := 83) rfl ?_
  intro h27 K28 A_n
  replace A_b1 : Av Z h27 b1 .int [(.int (65 : Int32)), (.int (91 : Int32)), (.int (95 : Int32)), (.int (96 : Int32)), (.int (97 : Int32)), (.int (123 : Int32)), (.int (192 : Int32)), (.int (215 : Int32)), (.int (216 : Int32)), (.int (247 : Int32)), (.int (248 : Int32)), (.int (768 : Int32)), (.int (880 : Int32)), (.int 0), (.int 0), (.int 0), (.int 0), (.int 0), (.int 0), (.int 0), (.int 0), (.int 0), (.int 0), (.int 0), (.int 0), (.int 0), (.int 0), (.int 0), (.int 0), (.int 0), (.int 0), (.int 0)] := A_n
  clear A_n
  refine WP.dup d1_83 rfl (pc' := 84) rfl ?_
  refine WP.bipush d1_84 (z := (13 : Int32)) rfl (pc' := 86) rfl ?_
  refine WP.sipush d1_86 (z := (894 : Int32)) rfl (pc' := 89) rfl ?_
  refine WP.iastore 13 d1_89 A_b1 rfl (by decide) g_b1 (pc' := 90) rfl ?_
  intro h29 K30 A_n
  replace A_b1 : Av Z h29 b1 .int [(.int (65 : Int32)), (.int (91 : Int32)), (.int (95 : Int32)), (.int (96 : Int32)), (.int (97 : Int32)), (.int (123 : Int32)), (.int (192 : Int32)), (.int (215 : Int32)), (.int (216 : Int32)), (.int (247 : Int32)), (.int (248 : Int32)), (.int (768 : Int32)), (.int (880 : Int32)), (.int (894 : Int32)), (.int 0), (.int 0), (.int 0), (.int 0), (.int 0), (.int 0), (.int 0), (.int 0), (.int 0), (.int 0), (.int 0), (.int 0), (.int 0), (.int 0), (.int 0), (.int 0), (.int 0), (.int 0)] := A_n
  clear A_n
  refine WP.dup d1_90 rfl (pc' := 91) rfl ?_
  refine WP.bipush d1_91 (z := (14 : Int32)) rfl (pc' := 93) rfl ?_
  refine WP.sipush d1_93 (z := (895 : Int32)) rfl (pc' := 96) rfl ?_
  refine WP.iastore 14 d1_96 A_b1 rfl (by decide) g_b1 (pc' := 97) rfl ?_
  intro h31 K32 A_n
  replace A_b1 : Av Z h31 b1 .int [(.int (65 : Int32)), (.int (91 : Int32)), (.int (95 : Int32)), (.int (96 : Int32)), (.int (97 : Int32)), (.int (123 : Int32)), (.int (192 : Int32)), (.int (215 : Int32)), (.int (216 : Int32)), (.int (247 : Int32)), (.int (248 : Int32)), (.int (768 : Int32)), (.int (880 : Int32)), (.int (894 : Int32)), (.int (895 : Int32)), (.int 0), (.int 0), (.int 0), (.int 0), (.int 0), (.int 0), (.int 0), (.int 0), (.int 0), (.int 0), (.int 0), (.int 0), (.int 0), (.int 0), (.int 0), (.int 0), (.int 0)] := A_n
  clear A_n
  refine WP.dup d1_97 rfl (pc' := 98) rfl ?_
  refine WP.bipush d1_98 (z := (15 : Int32)) rfl (pc' := 100) rfl ?_
  refine WP.sipush d1_100 (z := (8192 : Int32)) rfl (pc' := 103) rfl ?_
  refine WP.iastore 15 d1_103 A_b1 rfl (by decide) g_b1 (pc' := 104) rfl ?_
  intro h33 K34 A_n
  replace A_b1 : Av Z h33 b1 .int [(.int (65 : Int32)), (.int (91 : Int32)), (.int (95 : Int32)), (.int (96 : Int32)), (.int (97 : Int32)), (.int (123 : Int32)), (.int (192 : Int32)), (.int (215 : Int32)), (.int (216 : Int32)), (.int (247 : Int32)), (.int (248 : Int32)), (.int (768 : Int32)), (.int (880 : Int32)), (.int (894 : Int32)), (.int (895 : Int32)), (.int (8192 : Int32)), (.int 0), (.int 0), (.int 0), (.int 0), (.int 0), (.int 0), (.int 0), (.int 0), (.int 0), (.int 0), (.int 0), (.int 0), (.int 0), (.int 0), (.int 0), (.int 0)] := A_n
  clear A_n
  refine WP.dup d1_104 rfl (pc' := 105) rfl ?_
  refine WP.bipush d1_105 (z := (16 : Int32)) rfl (pc' := 107) rfl ?_
  refine WP.sipush d1_107 (z := (8204 : Int32)) rfl (pc' := 110) rfl ?_
  refine WP.iastore 16 d1_110 A_b1 rfl (by decide) g_b1 (pc' := 111) rfl ?_
  intro h35 K36 A_n
  replace A_b1 : Av Z h35 b1 .int [(.int (65 : Int32)), (.int (91 : Int32)), (.int (95 : Int32)), (.int (96 : Int32)), (.int (97 : Int32)), (.int (123 : Int32)), (.int (192 : Int32)), (.int (215 : Int32)), (.int (216 : Int32)), (.int (247 : Int32)), (.int (248 : Int32)), (.int (768 : Int32)), (.int (880 : Int32)), (.int (894 : Int32)), (.int (895 : Int32)), (.int (8192 : Int32)), (.int (8204 : Int32)), (.int 0), (.int 0), (.int 0), (.int 0), (.int 0), (.int 0), (.int 0), (.int 0), (.int 0), (.int 0), (.int 0), (.int 0), (.int 0), (.int 0), (.int 0)] := A_n
  clear A_n
  refine WP.dup d1_111 rfl (pc' := 112) rfl ?_
  refine WP.bipush d1_112 (z := (17 : Int32)) rfl (pc' := 114) rfl ?_
  refine WP.sipush d1_114 (z := (8206 : Int32)) rfl (pc' := 117) rfl ?_
  refine WP.iastore 17 d1_117 A_b1 rfl (by decide) g_b1 (pc' := 118) rfl ?_
  intro h37 K38 A_n
  replace A_b1 : Av Z h37 b1 .int [(.int (65 : Int32)), (.int (91 : Int32)), (.int (95 : Int32)), (.int (96 : Int32)), (.int (97 : Int32)), (.int (123 : Int32)), (.int (192 : Int32)), (.int (215 : Int32)), (.int (216 : Int32)), (.int (247 : Int32)), (.int (248 : Int32)), (.int (768 : Int32)), (.int (880 : Int32)), (.int (894 : Int32)), (.int (895 : Int32)), (.int (8192 : Int32)), (.int (8204 : Int32)), (.int (8206 : Int32)), (.int 0), (.int 0), (.int 0), (.int 0), (.int 0), (.int 0), (.int 0), (.int 0), (.int 0), (.int 0), (.int 0), (.int 0), (.int 0), (.int 0)] := A_n
  clear A_n
  refine WP.dup d1_118 rfl (pc' := 119) rfl ?_
  refine WP.bipush d1_119 (z := (18 : Int32)) rfl (pc' := 121) rfl ?_
  refine WP.sipush d1_121 (z := (8304 : Int32)) rfl (pc' := 124) rfl ?_
  refine WP.iastore 18 d1_124 A_b1 rfl (by decide) g_b1 (pc' := 125) rfl ?_
  intro h39 K40 A_n
  replace A_b1 : Av Z h39 b1 .int [(.int (65 : Int32)), (.int (91 : Int32)), (.int (95 : Int32)), (.int (96 : Int32)), (.int (97 : Int32)), (.int (123 : Int32)), (.int (192 : Int32)), (.int (215 : Int32)), (.int (216 : Int32)), (.int (247 : Int32)), (.int (248 : Int32)), (.int (768 : Int32)), (.int (880 : Int32)), (.int (894 : Int32)), (.int (895 : Int32)), (.int (8192 : Int32)), (.int (8204 : Int32)), (.int (8206 : Int32)), (.int (8304 : Int32)), (.int 0), (.int 0), (.int 0), (.int 0), (.int 0), (.int 0), (.int 0), (.int 0), (.int 0), (.int 0), (.int 0), (.int 0), (.int 0)] := A_n
  clear A_n
  refine WP.dup d1_125 rfl (pc' := 126) rfl ?_
  refine WP.bipush d1_126 (z := (19 : Int32)) rfl (pc' := 128) rfl ?_
  refine WP.sipush d1_128 (z := (8592 : Int32)) rfl (pc' := 131) rfl ?_
  refine WP.iastore 19 d1_131 A_b1 rfl (by decide) g_b1 (pc' := 132) rfl ?_
  intro h41 K42 A_n
  replace A_b1 : Av Z h41 b1 .int [(.int (65 : Int32)), (.int (91 : Int32)), (.int (95 : Int32)), (.int (96 : Int32)), (.int (97 : Int32)), (.int (123 : Int32)), (.int (192 : Int32)), (.int (215 : Int32)), (.int (216 : Int32)), (.int (247 : Int32)), (.int (248 : Int32)), (.int (768 : Int32)), (.int (880 : Int32)), (.int (894 : Int32)), (.int (895 : Int32)), (.int (8192 : Int32)), (.int (8204 : Int32)), (.int (8206 : Int32)), (.int (8304 : Int32)), (.int (8592 : Int32)), (.int 0), (.int 0), (.int 0), (.int 0), (.int 0), (.int 0), (.int 0), (.int 0), (.int 0), (.int 0), (.int 0), (.int 0)] := A_n
  clear A_n
  refine WP.dup d1_132 rfl (pc' := 133) rfl ?_
  refine WP.bipush d1_133 (z := (20 : Int32)) rfl (pc' := 135) rfl ?_
  refine WP.sipush d1_135 (z := (11264 : Int32)) rfl (pc' := 138) rfl ?_
  refine WP.iastore 20 d1_138 A_b1 rfl (by decide) g_b1 (pc' := 139) rfl ?_
  intro h43 K44 A_n
  replace A_b1 : Av Z h43 b1 .int [(.int (65 : Int32)), (.int (91 : Int32)), (.int (95 : Int32)), (.int (96 : Int32)), (.int (97 : Int32)), (.int (123 : Int32)), (.int (192 : Int32)), (.int (215 : Int32)), (.int (216 : Int32)), (.int (247 : Int32)), (.int (248 : Int32)), (.int (768 : Int32)), (.int (880 : Int32)), (.int (894 : Int32)), (.int (895 : Int32)), (.int (8192 : Int32)), (.int (8204 : Int32)), (.int (8206 : Int32)), (.int (8304 : Int32)), (.int (8592 : Int32)), (.int (11264 : Int32)), (.int 0), (.int 0), (.int 0), (.int 0), (.int 0), (.int 0), (.int 0), (.int 0), (.int 0), (.int 0), (.int 0)] := A_n
  clear A_n
  refine WP.dup d1_139 rfl (pc' := 140) rfl ?_
  refine WP.bipush d1_140 (z := (21 : Int32)) rfl (pc' := 142) rfl ?_
  refine WP.sipush d1_142 (z := (12272 : Int32)) rfl (pc' := 145) rfl ?_
  refine WP.iastore 21 d1_145 A_b1 rfl (by decide) g_b1 (pc' := 146) rfl ?_
  intro h45 K46 A_n
  replace A_b1 : Av Z h45 b1 .int [(.int (65 : Int32)), (.int (91 : Int32)), (.int (95 : Int32)), (.int (96 : Int32)), (.int (97 : Int32)), (.int (123 : Int32)), (.int (192 : Int32)), (.int (215 : Int32)), (.int (216 : Int32)), (.int (247 : Int32)), (.int (248 : Int32)), (.int (768 : Int32)), (.int (880 : Int32)), (.int (894 : Int32)), (.int (895 : Int32)), (.int (8192 : Int32)), (.int (8204 : Int32)), (.int (8206 : Int32)), (.int (8304 : Int32)), (.int (8592 : Int32)), (.int (11264 : Int32)), (.int (12272 : Int32)), (.int 0), (.int 0), (.int 0), (.int 0), (.int 0), (.int 0), (.int 0), (.int 0), (.int 0), (.int 0)] := A_n
  clear A_n
  refine WP.dup d1_146 rfl (pc' := 147) rfl ?_
  refine WP.bipush d1_147 (z := (22 : Int32)) rfl (pc' := 149) rfl ?_
  refine WP.sipush d1_149 (z := (12289 : Int32)) rfl (pc' := 152) rfl ?_
  refine WP.iastore 22 d1_152 A_b1 rfl (by decide) g_b1 (pc' := 153) rfl ?_
  intro h47 K48 A_n
  replace A_b1 : Av Z h47 b1 .int [(.int (65 : Int32)), (.int (91 : Int32)), (.int (95 : Int32)), (.int (96 : Int32)), (.int (97 : Int32)), (.int (123 : Int32)), (.int (192 : Int32)), (.int (215 : Int32)), (.int (216 : Int32)), (.int (247 : Int32)), (.int (248 : Int32)), (.int (768 : Int32)), (.int (880 : Int32)), (.int (894 : Int32)), (.int (895 : Int32)), (.int (8192 : Int32)), (.int (8204 : Int32)), (.int (8206 : Int32)), (.int (8304 : Int32)), (.int (8592 : Int32)), (.int (11264 : Int32)), (.int (12272 : Int32)), (.int (12289 : Int32)), (.int 0), (.int 0), (.int 0), (.int 0), (.int 0), (.int 0), (.int 0), (.int 0), (.int 0)] := A_n
  clear A_n
  refine WP.dup d1_153 rfl (pc' := 154) rfl ?_
  refine WP.bipush d1_154 (z := (23 : Int32)) rfl (pc' := 156) rfl ?_
  refine WP.ldcI d1_156 (w5 hw) (pc' := 158) rfl ?_
  refine WP.iastore 23 d1_158 A_b1 rfl (by decide) g_b1 (pc' := 159) rfl ?_
  intro h49 K50 A_n
  replace A_b1 : Av Z h49 b1 .int [(.int (65 : Int32)), (.int (91 : Int32)), (.int (95 : Int32)), (.int (96 : Int32)), (.int (97 : Int32)), (.int (123 : Int32)), (.int (192 : Int32)), (.int (215 : Int32)), (.int (216 : Int32)), (.int (247 : Int32)), (.int (248 : Int32)), (.int (768 : Int32)), (.int (880 : Int32)), (.int (894 : Int32)), (.int (895 : Int32)), (.int (8192 : Int32)), (.int (8204 : Int32)), (.int (8206 : Int32)), (.int (8304 : Int32)), (.int (8592 : Int32)), (.int (11264 : Int32)), (.int (12272 : Int32)), (.int (12289 : Int32)), (.int (55296 : Int32)), (.int 0), (.int 0), (.int 0), (.int 0), (.int 0), (.int 0), (.int 0), (.int 0)] := A_n
  clear A_n
  refine WP.dup d1_159 rfl (pc' := 160) rfl ?_
  refine WP.bipush d1_160 (z := (24 : Int32)) rfl (pc' := 162) rfl ?_
  refine WP.ldcI d1_162 (w6 hw) (pc' := 164) rfl ?_
  refine WP.iastore 24 d1_164 A_b1 rfl (by decide) g_b1 (pc' := 165) rfl ?_
  intro h51 K52 A_n
  replace A_b1 : Av Z h51 b1 .int [(.int (65 : Int32)), (.int (91 : Int32)), (.int (95 : Int32)), (.int (96 : Int32)), (.int (97 : Int32)), (.int (123 : Int32)), (.int (192 : Int32)), (.int (215 : Int32)), (.int (216 : Int32)), (.int (247 : Int32)), (.int (248 : Int32)), (.int (768 : Int32)), (.int (880 : Int32)), (.int (894 : Int32)), (.int (895 : Int32)), (.int (8192 : Int32)), (.int (8204 : Int32)), (.int (8206 : Int32)), (.int (8304 : Int32)), (.int (8592 : Int32)), (.int (11264 : Int32)), (.int (12272 : Int32)), (.int (12289 : Int32)), (.int (55296 : Int32)), (.int (63744 : Int32)), (.int 0), (.int 0), (.int 0), (.int 0), (.int 0), (.int 0), (.int 0)] := A_n
  clear A_n
  refine WP.dup d1_165 rfl (pc' := 166) rfl ?_
  refine WP.bipush d1_166 (z := (25 : Int32)) rfl (pc' := 168) rfl ?_
  refine WP.ldcI d1_168 (w7 hw) (pc' := 170) rfl ?_
  refine WP.iastore 25 d1_170 A_b1 rfl (by decide) g_b1 (pc' := 171) rfl ?_
  intro h53 K54 A_n
  replace A_b1 : Av Z h53 b1 .int [(.int (65 : Int32)), (.int (91 : Int32)), (.int (95 : Int32)), (.int (96 : Int32)), (.int (97 : Int32)), (.int (123 : Int32)), (.int (192 : Int32)), (.int (215 : Int32)), (.int (216 : Int32)), (.int (247 : Int32)), (.int (248 : Int32)), (.int (768 : Int32)), (.int (880 : Int32)), (.int (894 : Int32)), (.int (895 : Int32)), (.int (8192 : Int32)), (.int (8204 : Int32)), (.int (8206 : Int32)), (.int (8304 : Int32)), (.int (8592 : Int32)), (.int (11264 : Int32)), (.int (12272 : Int32)), (.int (12289 : Int32)), (.int (55296 : Int32)), (.int (63744 : Int32)), (.int (64976 : Int32)), (.int 0), (.int 0), (.int 0), (.int 0), (.int 0), (.int 0)] := A_n
  clear A_n
  refine WP.dup d1_171 rfl (pc' := 172) rfl ?_
  refine WP.bipush d1_172 (z := (26 : Int32)) rfl (pc' := 174) rfl ?_
  refine WP.ldcI d1_174 (w8 hw) (pc' := 176) rfl ?_
  refine WP.iastore 26 d1_176 A_b1 rfl (by decide) g_b1 (pc' := 177) rfl ?_
  intro h55 K56 A_n
  replace A_b1 : Av Z h55 b1 .int [(.int (65 : Int32)), (.int (91 : Int32)), (.int (95 : Int32)), (.int (96 : Int32)), (.int (97 : Int32)), (.int (123 : Int32)), (.int (192 : Int32)), (.int (215 : Int32)), (.int (216 : Int32)), (.int (247 : Int32)), (.int (248 : Int32)), (.int (768 : Int32)), (.int (880 : Int32)), (.int (894 : Int32)), (.int (895 : Int32)), (.int (8192 : Int32)), (.int (8204 : Int32)), (.int (8206 : Int32)), (.int (8304 : Int32)), (.int (8592 : Int32)), (.int (11264 : Int32)), (.int (12272 : Int32)), (.int (12289 : Int32)), (.int (55296 : Int32)), (.int (63744 : Int32)), (.int (64976 : Int32)), (.int (65008 : Int32)), (.int 0), (.int 0), (.int 0), (.int 0), (.int 0)] := A_n
  clear A_n
  refine WP.dup d1_177 rfl (pc' := 178) rfl ?_
  refine WP.bipush d1_178 (z := (27 : Int32)) rfl (pc' := 180) rfl ?_
  refine WP.ldcI d1_180 (w9 hw) (pc' := 182) rfl ?_
  refine WP.iastore 27 d1_182 A_b1 rfl (by decide) g_b1 (pc' := 183) rfl ?_
  intro h57 K58 A_n
  replace A_b1 : Av Z h57 b1 .int [(.int (65 : Int32)), (.int (91 : Int32)), (.int (95 : Int32)), (.int (96 : Int32)), (.int (97 : Int32)), (.int (123 : Int32)), (.int (192 : Int32)), (.int (215 : Int32)), (.int (216 : Int32)), (.int (247 : Int32)), (.int (248 : Int32)), (.int (768 : Int32)), (.int (880 : Int32)), (.int (894 : Int32)), (.int (895 : Int32)), (.int (8192 : Int32)), (.int (8204 : Int32)), (.int (8206 : Int32)), (.int (8304 : Int32)), (.int (8592 : Int32)), (.int (11264 : Int32)), (.int (12272 : Int32)), (.int (12289 : Int32)), (.int (55296 : Int32)), (.int (63744 : Int32)), (.int (64976 : Int32)), (.int (65008 : Int32)), (.int (65534 : Int32)), (.int 0), (.int 0), (.int 0), (.int 0)] := A_n
  clear A_n
  refine WP.dup d1_183 rfl (pc' := 184) rfl ?_
  refine WP.bipush d1_184 (z := (28 : Int32)) rfl (pc' := 186) rfl ?_
  refine WP.ldcI d1_186 (w10 hw) (pc' := 188) rfl ?_
  refine WP.iastore 28 d1_188 A_b1 rfl (by decide) g_b1 (pc' := 189) rfl ?_
  intro h59 K60 A_n
  replace A_b1 : Av Z h59 b1 .int [(.int (65 : Int32)), (.int (91 : Int32)), (.int (95 : Int32)), (.int (96 : Int32)), (.int (97 : Int32)), (.int (123 : Int32)), (.int (192 : Int32)), (.int (215 : Int32)), (.int (216 : Int32)), (.int (247 : Int32)), (.int (248 : Int32)), (.int (768 : Int32)), (.int (880 : Int32)), (.int (894 : Int32)), (.int (895 : Int32)), (.int (8192 : Int32)), (.int (8204 : Int32)), (.int (8206 : Int32)), (.int (8304 : Int32)), (.int (8592 : Int32)), (.int (11264 : Int32)), (.int (12272 : Int32)), (.int (12289 : Int32)), (.int (55296 : Int32)), (.int (63744 : Int32)), (.int (64976 : Int32)), (.int (65008 : Int32)), (.int (65534 : Int32)), (.int (65536 : Int32)), (.int 0), (.int 0), (.int 0)] := A_n
  clear A_n
  refine WP.dup d1_189 rfl (pc' := 190) rfl ?_
  refine WP.bipush d1_190 (z := (29 : Int32)) rfl (pc' := 192) rfl ?_
  refine WP.ldcI d1_192 (w11 hw) (pc' := 194) rfl ?_
  refine WP.iastore 29 d1_194 A_b1 rfl (by decide) g_b1 (pc' := 195) rfl ?_
  intro h61 K62 A_n
  replace A_b1 : Av Z h61 b1 .int [(.int (65 : Int32)), (.int (91 : Int32)), (.int (95 : Int32)), (.int (96 : Int32)), (.int (97 : Int32)), (.int (123 : Int32)), (.int (192 : Int32)), (.int (215 : Int32)), (.int (216 : Int32)), (.int (247 : Int32)), (.int (248 : Int32)), (.int (768 : Int32)), (.int (880 : Int32)), (.int (894 : Int32)), (.int (895 : Int32)), (.int (8192 : Int32)), (.int (8204 : Int32)), (.int (8206 : Int32)), (.int (8304 : Int32)), (.int (8592 : Int32)), (.int (11264 : Int32)), (.int (12272 : Int32)), (.int (12289 : Int32)), (.int (55296 : Int32)), (.int (63744 : Int32)), (.int (64976 : Int32)), (.int (65008 : Int32)), (.int (65534 : Int32)), (.int (65536 : Int32)), (.int (983040 : Int32)), (.int 0), (.int 0)] := A_n
  clear A_n
  refine WP.dup d1_195 rfl (pc' := 196) rfl ?_
  refine WP.bipush d1_196 (z := (30 : Int32)) rfl (pc' := 198) rfl ?_
  refine WP.ldcI d1_198 (w12 hw) (pc' := 200) rfl ?_
  refine WP.iastore 30 d1_200 A_b1 rfl (by decide) g_b1 (pc' := 201) rfl ?_
  intro h63 K64 A_n
  replace A_b1 : Av Z h63 b1 .int [(.int (65 : Int32)), (.int (91 : Int32)), (.int (95 : Int32)), (.int (96 : Int32)), (.int (97 : Int32)), (.int (123 : Int32)), (.int (192 : Int32)), (.int (215 : Int32)), (.int (216 : Int32)), (.int (247 : Int32)), (.int (248 : Int32)), (.int (768 : Int32)), (.int (880 : Int32)), (.int (894 : Int32)), (.int (895 : Int32)), (.int (8192 : Int32)), (.int (8204 : Int32)), (.int (8206 : Int32)), (.int (8304 : Int32)), (.int (8592 : Int32)), (.int (11264 : Int32)), (.int (12272 : Int32)), (.int (12289 : Int32)), (.int (55296 : Int32)), (.int (63744 : Int32)), (.int (64976 : Int32)), (.int (65008 : Int32)), (.int (65534 : Int32)), (.int (65536 : Int32)), (.int (983040 : Int32)), (.int (2147483647 : Int32)), (.int 0)] := A_n
  clear A_n
  refine WP.dup d1_201 rfl (pc' := 202) rfl ?_
  refine WP.bipush d1_202 (z := (31 : Int32)) rfl (pc' := 204) rfl ?_
  refine WP.ldcI d1_204 (w12 hw) (pc' := 206) rfl ?_
  refine WP.iastore 31 d1_206 A_b1 rfl (by decide) g_b1 (pc' := 207) rfl ?_
  intro h65 K66 A_n
  replace A_b1 : Av Z h65 b1 .int [(.int (65 : Int32)), (.int (91 : Int32)), (.int (95 : Int32)), (.int (96 : Int32)), (.int (97 : Int32)), (.int (123 : Int32)), (.int (192 : Int32)), (.int (215 : Int32)), (.int (216 : Int32)), (.int (247 : Int32)), (.int (248 : Int32)), (.int (768 : Int32)), (.int (880 : Int32)), (.int (894 : Int32)), (.int (895 : Int32)), (.int (8192 : Int32)), (.int (8204 : Int32)), (.int (8206 : Int32)), (.int (8304 : Int32)), (.int (8592 : Int32)), (.int (11264 : Int32)), (.int (12272 : Int32)), (.int (12289 : Int32)), (.int (55296 : Int32)), (.int (63744 : Int32)), (.int (64976 : Int32)), (.int (65008 : Int32)), (.int (65534 : Int32)), (.int (65536 : Int32)), (.int (983040 : Int32)), (.int (2147483647 : Int32)), (.int (2147483647 : Int32))] := A_n
  clear A_n
  exact WP.retA d1_207 rfl rfl rfl (by decide) (by decide) ⟨b1, rfl, g_b1, A_b1⟩
theorem isn_met {l : Launch} {Z : State} {a0 : Array Value} (hw : HW Z a0) {n0 : Nat} {h : Heap} (k : Int32) : OMet l (⟨"com/example/chronoxyl/chronoxyl/history/Xml", "isNameStart", "(I)Z"⟩ : MethodName) B2 Z n0 #[(.int k)] h (fun v h' => h = h' ∧ ∃ r : Int32, v = some (.int r) ∧ ((r.toInt = 1 ∧ (PN k.toInt)) ∨ (r.toInt = 0 ∧ ¬ (PN k.toInt)))) := by
  refine OMet.of_wp (ls0 := #[.val (.int k)]) pl2 rfl rfl (fun m => by first | rfl | (simp [entryFrame, mkF, argsToLocals, Value.category, B2]; done)) ?_
  have k32_0 : (0 : Int32).toInt = 0 := by decide
  have k32_1 : (1 : Int32).toInt = 1 := by decide
  have k32_65 : (65 : Int32).toInt = 65 := by decide
  have k32_90 : (90 : Int32).toInt = 90 := by decide
  have k32_95 : (95 : Int32).toInt = 95 := by decide
  have k32_97 : (97 : Int32).toInt = 97 := by decide
  have k32_122 : (122 : Int32).toInt = 122 := by decide
  have k32_192 : (192 : Int32).toInt = 192 := by decide
  have k32_214 : (214 : Int32).toInt = 214 := by decide
  have k32_216 : (216 : Int32).toInt = 216 := by decide
  have k32_246 : (246 : Int32).toInt = 246 := by decide
  have k32_248 : (248 : Int32).toInt = 248 := by decide
  have k32_767 : (767 : Int32).toInt = 767 := by decide
  have k32_880 : (880 : Int32).toInt = 880 := by decide
  have k32_893 : (893 : Int32).toInt = 893 := by decide
  have k32_895 : (895 : Int32).toInt = 895 := by decide
  have k32_8191 : (8191 : Int32).toInt = 8191 := by decide
  have k32_8204 : (8204 : Int32).toInt = 8204 := by decide
  have k32_8205 : (8205 : Int32).toInt = 8205 := by decide
  have k32_8304 : (8304 : Int32).toInt = 8304 := by decide
  have k32_8591 : (8591 : Int32).toInt = 8591 := by decide
  have k32_11264 : (11264 : Int32).toInt = 11264 := by decide
  have k32_12271 : (12271 : Int32).toInt = 12271 := by decide
  have k32_12289 : (12289 : Int32).toInt = 12289 := by decide
  have k32_55295 : (55295 : Int32).toInt = 55295 := by decide
  have k32_63744 : (63744 : Int32).toInt = 63744 := by decide
  have k32_64975 : (64975 : Int32).toInt = 64975 := by decide
  have k32_65008 : (65008 : Int32).toInt = 65008 := by decide
  have k32_65533 : (65533 : Int32).toInt = 65533 := by decide
  have k32_65536 : (65536 : Int32).toInt = 65536 := by decide
  have k32_983039 : (983039 : Int32).toInt = 983039 := by decide
  refine WP.iloadN d2_0 rfl (pc' := 1) rfl ?_
  refine WP.bipush d2_1 (z := (65 : Int32)) rfl (pc' := 3) rfl ?_
  refine WP.icmpLt d2_3 (tgt := 12) (by decide) (pc' := 6) rfl (fun c3 => ?_) (fun c3 => ?_)
  ·
    refine WP.iloadN d2_12 rfl (pc' := 13) rfl ?_
    refine WP.bipush d2_13 (z := (95 : Int32)) rfl (pc' := 15) rfl ?_
    refine WP.icmpEq d2_15 (tgt := 191) (by decide) (pc' := 18) rfl (fun c15 => ?_) (fun c15 => ?_)
    · exfalso; omega
    refine WP.iloadN d2_18 rfl (pc' := 19) rfl ?_
    refine WP.bipush d2_19 (z := (97 : Int32)) rfl (pc' := 21) rfl ?_
    refine WP.icmpLt d2_21 (tgt := 30) (by decide) (pc' := 24) rfl (fun c21 => ?_) (fun c21 => ?_)
    ·
      refine WP.iloadN d2_30 rfl (pc' := 31) rfl ?_
      refine WP.sipush d2_31 (z := (192 : Int32)) rfl (pc' := 34) rfl ?_
      refine WP.icmpLt d2_34 (tgt := 44) (by decide) (pc' := 37) rfl (fun c34 => ?_) (fun c34 => ?_)
      ·
        refine WP.iloadN d2_44 rfl (pc' := 45) rfl ?_
        refine WP.sipush d2_45 (z := (216 : Int32)) rfl (pc' := 48) rfl ?_
        refine WP.icmpLt d2_48 (tgt := 58) (by decide) (pc' := 51) rfl (fun c48 => ?_) (fun c48 => ?_)
        ·
          refine WP.iloadN d2_58 rfl (pc' := 59) rfl ?_
          refine WP.sipush d2_59 (z := (248 : Int32)) rfl (pc' := 62) rfl ?_
          refine WP.icmpLt d2_62 (tgt := 72) (by decide) (pc' := 65) rfl (fun c62 => ?_) (fun c62 => ?_)
          ·
            refine WP.iloadN d2_72 rfl (pc' := 73) rfl ?_
            refine WP.sipush d2_73 (z := (880 : Int32)) rfl (pc' := 76) rfl ?_
            refine WP.icmpLt d2_76 (tgt := 86) (by decide) (pc' := 79) rfl (fun c76 => ?_) (fun c76 => ?_)
            ·
              refine WP.iloadN d2_86 rfl (pc' := 87) rfl ?_
              refine WP.sipush d2_87 (z := (895 : Int32)) rfl (pc' := 90) rfl ?_
              refine WP.icmpLt d2_90 (tgt := 100) (by decide) (pc' := 93) rfl (fun c90 => ?_) (fun c90 => ?_)
              ·
                refine WP.iloadN d2_100 rfl (pc' := 101) rfl ?_
                refine WP.sipush d2_101 (z := (8204 : Int32)) rfl (pc' := 104) rfl ?_
                refine WP.icmpLt d2_104 (tgt := 114) (by decide) (pc' := 107) rfl (fun c104 => ?_) (fun c104 => ?_)
                ·
                  refine WP.iloadN d2_114 rfl (pc' := 115) rfl ?_
                  refine WP.sipush d2_115 (z := (8304 : Int32)) rfl (pc' := 118) rfl ?_
                  refine WP.icmpLt d2_118 (tgt := 128) (by decide) (pc' := 121) rfl (fun c118 => ?_) (fun c118 => ?_)
                  ·
                    refine WP.iloadN d2_128 rfl (pc' := 129) rfl ?_
                    refine WP.sipush d2_129 (z := (11264 : Int32)) rfl (pc' := 132) rfl ?_
                    refine WP.icmpLt d2_132 (tgt := 142) (by decide) (pc' := 135) rfl (fun c132 => ?_) (fun c132 => ?_)
                    ·
                      refine WP.iloadN d2_142 rfl (pc' := 143) rfl ?_
                      refine WP.sipush d2_143 (z := (12289 : Int32)) rfl (pc' := 146) rfl ?_
                      refine WP.icmpLt d2_146 (tgt := 155) (by decide) (pc' := 149) rfl (fun c146 => ?_) (fun c146 => ?_)
                      ·
                        refine WP.iloadN d2_155 rfl (pc' := 156) rfl ?_
                        refine WP.ldcI d2_156 (w17 hw) (pc' := 158) rfl ?_
                        refine WP.icmpLt d2_158 (tgt := 167) (by decide) (pc' := 161) rfl (fun c158 => ?_) (fun c158 => ?_)
                        ·
                          refine WP.iloadN d2_167 rfl (pc' := 168) rfl ?_
                          refine WP.ldcI d2_168 (w18 hw) (pc' := 170) rfl ?_
                          refine WP.icmpLt d2_170 (tgt := 179) (by decide) (pc' := 173) rfl (fun c170 => ?_) (fun c170 => ?_)
                          ·
                            refine WP.iloadN d2_179 rfl (pc' := 180) rfl ?_
                            refine WP.ldcI d2_180 (w19 hw) (pc' := 182) rfl ?_
                            refine WP.icmpLt d2_182 (tgt := 195) (by decide) (pc' := 185) rfl (fun c182 => ?_) (fun c182 => ?_)
                            ·
                              refine WP.iconst d2_195 (z := (0 : Int32)) rfl (pc' := 196) rfl ?_
                              exact WP.retN d2_196 (t := .boolean) rfl (by simp) (by decide) (by decide) ⟨rfl, 0, own_q0, Or.inr ⟨by decide, by unfold PN; omega⟩⟩
                            exfalso; omega
                          exfalso; omega
                        exfalso; omega
                      exfalso; omega
                    exfalso; omega
                  exfalso; omega
                exfalso; omega
              exfalso; omega
            exfalso; omega
          exfalso; omega
        exfalso; omega
      exfalso; omega
    exfalso; omega
  refine WP.iloadN d2_6 rfl (pc' := 7) rfl ?_
  refine WP.bipush d2_7 (z := (90 : Int32)) rfl (pc' := 9) rfl ?_
  refine WP.icmpLe d2_9 (tgt := 191) (by decide) (pc' := 12) rfl (fun c9 => ?_) (fun c9 => ?_)
  ·
    refine WP.iconst d2_191 (z := (1 : Int32)) rfl (pc' := 192) rfl ?_
    refine WP.goto d2_192 (pc' := 196) (by decide) ?_
    exact WP.retN d2_196 (t := .boolean) rfl (by simp) (by decide) (by decide) ⟨rfl, 1, own_q1, Or.inl ⟨by decide, by unfold PN; omega⟩⟩
  refine WP.iloadN d2_12 rfl (pc' := 13) rfl ?_
  refine WP.bipush d2_13 (z := (95 : Int32)) rfl (pc' := 15) rfl ?_
  refine WP.icmpEq d2_15 (tgt := 191) (by decide) (pc' := 18) rfl (fun c15 => ?_) (fun c15 => ?_)
  ·
    refine WP.iconst d2_191 (z := (1 : Int32)) rfl (pc' := 192) rfl ?_
    refine WP.goto d2_192 (pc' := 196) (by decide) ?_
    exact WP.retN d2_196 (t := .boolean) rfl (by simp) (by decide) (by decide) ⟨rfl, 1, own_q1, Or.inl ⟨by decide, by unfold PN; omega⟩⟩
  refine WP.iloadN d2_18 rfl (pc' := 19) rfl ?_
  refine WP.bipush d2_19 (z := (97 : Int32)) rfl (pc' := 21) rfl ?_
  refine WP.icmpLt d2_21 (tgt := 30) (by decide) (pc' := 24) rfl (fun c21 => ?_) (fun c21 => ?_)
  ·
    refine WP.iloadN d2_30 rfl (pc' := 31) rfl ?_
    refine WP.sipush d2_31 (z := (192 : Int32)) rfl (pc' := 34) rfl ?_
    refine WP.icmpLt d2_34 (tgt := 44) (by decide) (pc' := 37) rfl (fun c34 => ?_) (fun c34 => ?_)
    ·
      refine WP.iloadN d2_44 rfl (pc' := 45) rfl ?_
      refine WP.sipush d2_45 (z := (216 : Int32)) rfl (pc' := 48) rfl ?_
      refine WP.icmpLt d2_48 (tgt := 58) (by decide) (pc' := 51) rfl (fun c48 => ?_) (fun c48 => ?_)
      ·
        refine WP.iloadN d2_58 rfl (pc' := 59) rfl ?_
        refine WP.sipush d2_59 (z := (248 : Int32)) rfl (pc' := 62) rfl ?_
        refine WP.icmpLt d2_62 (tgt := 72) (by decide) (pc' := 65) rfl (fun c62 => ?_) (fun c62 => ?_)
        ·
          refine WP.iloadN d2_72 rfl (pc' := 73) rfl ?_
          refine WP.sipush d2_73 (z := (880 : Int32)) rfl (pc' := 76) rfl ?_
          refine WP.icmpLt d2_76 (tgt := 86) (by decide) (pc' := 79) rfl (fun c76 => ?_) (fun c76 => ?_)
          ·
            refine WP.iloadN d2_86 rfl (pc' := 87) rfl ?_
            refine WP.sipush d2_87 (z := (895 : Int32)) rfl (pc' := 90) rfl ?_
            refine WP.icmpLt d2_90 (tgt := 100) (by decide) (pc' := 93) rfl (fun c90 => ?_) (fun c90 => ?_)
            ·
              refine WP.iloadN d2_100 rfl (pc' := 101) rfl ?_
              refine WP.sipush d2_101 (z := (8204 : Int32)) rfl (pc' := 104) rfl ?_
              refine WP.icmpLt d2_104 (tgt := 114) (by decide) (pc' := 107) rfl (fun c104 => ?_) (fun c104 => ?_)
              ·
                refine WP.iloadN d2_114 rfl (pc' := 115) rfl ?_
                refine WP.sipush d2_115 (z := (8304 : Int32)) rfl (pc' := 118) rfl ?_
                refine WP.icmpLt d2_118 (tgt := 128) (by decide) (pc' := 121) rfl (fun c118 => ?_) (fun c118 => ?_)
                ·
                  refine WP.iloadN d2_128 rfl (pc' := 129) rfl ?_
                  refine WP.sipush d2_129 (z := (11264 : Int32)) rfl (pc' := 132) rfl ?_
                  refine WP.icmpLt d2_132 (tgt := 142) (by decide) (pc' := 135) rfl (fun c132 => ?_) (fun c132 => ?_)
                  ·
                    refine WP.iloadN d2_142 rfl (pc' := 143) rfl ?_
                    refine WP.sipush d2_143 (z := (12289 : Int32)) rfl (pc' := 146) rfl ?_
                    refine WP.icmpLt d2_146 (tgt := 155) (by decide) (pc' := 149) rfl (fun c146 => ?_) (fun c146 => ?_)
                    ·
                      refine WP.iloadN d2_155 rfl (pc' := 156) rfl ?_
                      refine WP.ldcI d2_156 (w17 hw) (pc' := 158) rfl ?_
                      refine WP.icmpLt d2_158 (tgt := 167) (by decide) (pc' := 161) rfl (fun c158 => ?_) (fun c158 => ?_)
                      ·
                        refine WP.iloadN d2_167 rfl (pc' := 168) rfl ?_
                        refine WP.ldcI d2_168 (w18 hw) (pc' := 170) rfl ?_
                        refine WP.icmpLt d2_170 (tgt := 179) (by decide) (pc' := 173) rfl (fun c170 => ?_) (fun c170 => ?_)
                        ·
                          refine WP.iloadN d2_179 rfl (pc' := 180) rfl ?_
                          refine WP.ldcI d2_180 (w19 hw) (pc' := 182) rfl ?_
                          refine WP.icmpLt d2_182 (tgt := 195) (by decide) (pc' := 185) rfl (fun c182 => ?_) (fun c182 => ?_)
                          ·
                            refine WP.iconst d2_195 (z := (0 : Int32)) rfl (pc' := 196) rfl ?_
                            exact WP.retN d2_196 (t := .boolean) rfl (by simp) (by decide) (by decide) ⟨rfl, 0, own_q0, Or.inr ⟨by decide, by unfold PN; omega⟩⟩
                          exfalso; omega
                        exfalso; omega
                      exfalso; omega
                    exfalso; omega
                  exfalso; omega
                exfalso; omega
              exfalso; omega
            exfalso; omega
          exfalso; omega
        exfalso; omega
      exfalso; omega
    exfalso; omega
  refine WP.iloadN d2_24 rfl (pc' := 25) rfl ?_
  refine WP.bipush d2_25 (z := (122 : Int32)) rfl (pc' := 27) rfl ?_
  refine WP.icmpLe d2_27 (tgt := 191) (by decide) (pc' := 30) rfl (fun c27 => ?_) (fun c27 => ?_)
  ·
    refine WP.iconst d2_191 (z := (1 : Int32)) rfl (pc' := 192) rfl ?_
    refine WP.goto d2_192 (pc' := 196) (by decide) ?_
    exact WP.retN d2_196 (t := .boolean) rfl (by simp) (by decide) (by decide) ⟨rfl, 1, own_q1, Or.inl ⟨by decide, by unfold PN; omega⟩⟩
  refine WP.iloadN d2_30 rfl (pc' := 31) rfl ?_
  refine WP.sipush d2_31 (z := (192 : Int32)) rfl (pc' := 34) rfl ?_
  refine WP.icmpLt d2_34 (tgt := 44) (by decide) (pc' := 37) rfl (fun c34 => ?_) (fun c34 => ?_)
  ·
    refine WP.iloadN d2_44 rfl (pc' := 45) rfl ?_
    refine WP.sipush d2_45 (z := (216 : Int32)) rfl (pc' := 48) rfl ?_
    refine WP.icmpLt d2_48 (tgt := 58) (by decide) (pc' := 51) rfl (fun c48 => ?_) (fun c48 => ?_)
    ·
      refine WP.iloadN d2_58 rfl (pc' := 59) rfl ?_
      refine WP.sipush d2_59 (z := (248 : Int32)) rfl (pc' := 62) rfl ?_
      refine WP.icmpLt d2_62 (tgt := 72) (by decide) (pc' := 65) rfl (fun c62 => ?_) (fun c62 => ?_)
      ·
        refine WP.iloadN d2_72 rfl (pc' := 73) rfl ?_
        refine WP.sipush d2_73 (z := (880 : Int32)) rfl (pc' := 76) rfl ?_
        refine WP.icmpLt d2_76 (tgt := 86) (by decide) (pc' := 79) rfl (fun c76 => ?_) (fun c76 => ?_)
        ·
          refine WP.iloadN d2_86 rfl (pc' := 87) rfl ?_
          refine WP.sipush d2_87 (z := (895 : Int32)) rfl (pc' := 90) rfl ?_
          refine WP.icmpLt d2_90 (tgt := 100) (by decide) (pc' := 93) rfl (fun c90 => ?_) (fun c90 => ?_)
          ·
            refine WP.iloadN d2_100 rfl (pc' := 101) rfl ?_
            refine WP.sipush d2_101 (z := (8204 : Int32)) rfl (pc' := 104) rfl ?_
            refine WP.icmpLt d2_104 (tgt := 114) (by decide) (pc' := 107) rfl (fun c104 => ?_) (fun c104 => ?_)
            ·
              refine WP.iloadN d2_114 rfl (pc' := 115) rfl ?_
              refine WP.sipush d2_115 (z := (8304 : Int32)) rfl (pc' := 118) rfl ?_
              refine WP.icmpLt d2_118 (tgt := 128) (by decide) (pc' := 121) rfl (fun c118 => ?_) (fun c118 => ?_)
              ·
                refine WP.iloadN d2_128 rfl (pc' := 129) rfl ?_
                refine WP.sipush d2_129 (z := (11264 : Int32)) rfl (pc' := 132) rfl ?_
                refine WP.icmpLt d2_132 (tgt := 142) (by decide) (pc' := 135) rfl (fun c132 => ?_) (fun c132 => ?_)
                ·
                  refine WP.iloadN d2_142 rfl (pc' := 143) rfl ?_
                  refine WP.sipush d2_143 (z := (12289 : Int32)) rfl (pc' := 146) rfl ?_
                  refine WP.icmpLt d2_146 (tgt := 155) (by decide) (pc' := 149) rfl (fun c146 => ?_) (fun c146 => ?_)
                  ·
                    refine WP.iloadN d2_155 rfl (pc' := 156) rfl ?_
                    refine WP.ldcI d2_156 (w17 hw) (pc' := 158) rfl ?_
                    refine WP.icmpLt d2_158 (tgt := 167) (by decide) (pc' := 161) rfl (fun c158 => ?_) (fun c158 => ?_)
                    ·
                      refine WP.iloadN d2_167 rfl (pc' := 168) rfl ?_
                      refine WP.ldcI d2_168 (w18 hw) (pc' := 170) rfl ?_
                      refine WP.icmpLt d2_170 (tgt := 179) (by decide) (pc' := 173) rfl (fun c170 => ?_) (fun c170 => ?_)
                      ·
                        refine WP.iloadN d2_179 rfl (pc' := 180) rfl ?_
                        refine WP.ldcI d2_180 (w19 hw) (pc' := 182) rfl ?_
                        refine WP.icmpLt d2_182 (tgt := 195) (by decide) (pc' := 185) rfl (fun c182 => ?_) (fun c182 => ?_)
                        ·
                          refine WP.iconst d2_195 (z := (0 : Int32)) rfl (pc' := 196) rfl ?_
                          exact WP.retN d2_196 (t := .boolean) rfl (by simp) (by decide) (by decide) ⟨rfl, 0, own_q0, Or.inr ⟨by decide, by unfold PN; omega⟩⟩
                        exfalso; omega
                      exfalso; omega
                    exfalso; omega
                  exfalso; omega
                exfalso; omega
              exfalso; omega
            exfalso; omega
          exfalso; omega
        exfalso; omega
      exfalso; omega
    exfalso; omega
  refine WP.iloadN d2_37 rfl (pc' := 38) rfl ?_
  refine WP.sipush d2_38 (z := (214 : Int32)) rfl (pc' := 41) rfl ?_
  refine WP.icmpLe d2_41 (tgt := 191) (by decide) (pc' := 44) rfl (fun c41 => ?_) (fun c41 => ?_)
  ·
    refine WP.iconst d2_191 (z := (1 : Int32)) rfl (pc' := 192) rfl ?_
    refine WP.goto d2_192 (pc' := 196) (by decide) ?_
    exact WP.retN d2_196 (t := .boolean) rfl (by simp) (by decide) (by decide) ⟨rfl, 1, own_q1, Or.inl ⟨by decide, by unfold PN; omega⟩⟩
  refine WP.iloadN d2_44 rfl (pc' := 45) rfl ?_
  refine WP.sipush d2_45 (z := (216 : Int32)) rfl (pc' := 48) rfl ?_
  refine WP.icmpLt d2_48 (tgt := 58) (by decide) (pc' := 51) rfl (fun c48 => ?_) (fun c48 => ?_)
  ·
    refine WP.iloadN d2_58 rfl (pc' := 59) rfl ?_
    refine WP.sipush d2_59 (z := (248 : Int32)) rfl (pc' := 62) rfl ?_
    refine WP.icmpLt d2_62 (tgt := 72) (by decide) (pc' := 65) rfl (fun c62 => ?_) (fun c62 => ?_)
    ·
      refine WP.iloadN d2_72 rfl (pc' := 73) rfl ?_
      refine WP.sipush d2_73 (z := (880 : Int32)) rfl (pc' := 76) rfl ?_
      refine WP.icmpLt d2_76 (tgt := 86) (by decide) (pc' := 79) rfl (fun c76 => ?_) (fun c76 => ?_)
      ·
        refine WP.iloadN d2_86 rfl (pc' := 87) rfl ?_
        refine WP.sipush d2_87 (z := (895 : Int32)) rfl (pc' := 90) rfl ?_
        refine WP.icmpLt d2_90 (tgt := 100) (by decide) (pc' := 93) rfl (fun c90 => ?_) (fun c90 => ?_)
        ·
          refine WP.iloadN d2_100 rfl (pc' := 101) rfl ?_
          refine WP.sipush d2_101 (z := (8204 : Int32)) rfl (pc' := 104) rfl ?_
          refine WP.icmpLt d2_104 (tgt := 114) (by decide) (pc' := 107) rfl (fun c104 => ?_) (fun c104 => ?_)
          ·
            refine WP.iloadN d2_114 rfl (pc' := 115) rfl ?_
            refine WP.sipush d2_115 (z := (8304 : Int32)) rfl (pc' := 118) rfl ?_
            refine WP.icmpLt d2_118 (tgt := 128) (by decide) (pc' := 121) rfl (fun c118 => ?_) (fun c118 => ?_)
            ·
              refine WP.iloadN d2_128 rfl (pc' := 129) rfl ?_
              refine WP.sipush d2_129 (z := (11264 : Int32)) rfl (pc' := 132) rfl ?_
              refine WP.icmpLt d2_132 (tgt := 142) (by decide) (pc' := 135) rfl (fun c132 => ?_) (fun c132 => ?_)
              ·
                refine WP.iloadN d2_142 rfl (pc' := 143) rfl ?_
                refine WP.sipush d2_143 (z := (12289 : Int32)) rfl (pc' := 146) rfl ?_
                refine WP.icmpLt d2_146 (tgt := 155) (by decide) (pc' := 149) rfl (fun c146 => ?_) (fun c146 => ?_)
                ·
                  refine WP.iloadN d2_155 rfl (pc' := 156) rfl ?_
                  refine WP.ldcI d2_156 (w17 hw) (pc' := 158) rfl ?_
                  refine WP.icmpLt d2_158 (tgt := 167) (by decide) (pc' := 161) rfl (fun c158 => ?_) (fun c158 => ?_)
                  ·
                    refine WP.iloadN d2_167 rfl (pc' := 168) rfl ?_
                    refine WP.ldcI d2_168 (w18 hw) (pc' := 170) rfl ?_
                    refine WP.icmpLt d2_170 (tgt := 179) (by decide) (pc' := 173) rfl (fun c170 => ?_) (fun c170 => ?_)
                    ·
                      refine WP.iloadN d2_179 rfl (pc' := 180) rfl ?_
                      refine WP.ldcI d2_180 (w19 hw) (pc' := 182) rfl ?_
                      refine WP.icmpLt d2_182 (tgt := 195) (by decide) (pc' := 185) rfl (fun c182 => ?_) (fun c182 => ?_)
                      ·
                        refine WP.iconst d2_195 (z := (0 : Int32)) rfl (pc' := 196) rfl ?_
                        exact WP.retN d2_196 (t := .boolean) rfl (by simp) (by decide) (by decide) ⟨rfl, 0, own_q0, Or.inr ⟨by decide, by unfold PN; omega⟩⟩
                      exfalso; omega
                    exfalso; omega
                  exfalso; omega
                exfalso; omega
              exfalso; omega
            exfalso; omega
          exfalso; omega
        exfalso; omega
      exfalso; omega
    exfalso; omega
  refine WP.iloadN d2_51 rfl (pc' := 52) rfl ?_
  refine WP.sipush d2_52 (z := (246 : Int32)) rfl (pc' := 55) rfl ?_
  refine WP.icmpLe d2_55 (tgt := 191) (by decide) (pc' := 58) rfl (fun c55 => ?_) (fun c55 => ?_)
  ·
    refine WP.iconst d2_191 (z := (1 : Int32)) rfl (pc' := 192) rfl ?_
    refine WP.goto d2_192 (pc' := 196) (by decide) ?_
    exact WP.retN d2_196 (t := .boolean) rfl (by simp) (by decide) (by decide) ⟨rfl, 1, own_q1, Or.inl ⟨by decide, by unfold PN; omega⟩⟩
  refine WP.iloadN d2_58 rfl (pc' := 59) rfl ?_
  refine WP.sipush d2_59 (z := (248 : Int32)) rfl (pc' := 62) rfl ?_
  refine WP.icmpLt d2_62 (tgt := 72) (by decide) (pc' := 65) rfl (fun c62 => ?_) (fun c62 => ?_)
  ·
    refine WP.iloadN d2_72 rfl (pc' := 73) rfl ?_
    refine WP.sipush d2_73 (z := (880 : Int32)) rfl (pc' := 76) rfl ?_
    refine WP.icmpLt d2_76 (tgt := 86) (by decide) (pc' := 79) rfl (fun c76 => ?_) (fun c76 => ?_)
    ·
      refine WP.iloadN d2_86 rfl (pc' := 87) rfl ?_
      refine WP.sipush d2_87 (z := (895 : Int32)) rfl (pc' := 90) rfl ?_
      refine WP.icmpLt d2_90 (tgt := 100) (by decide) (pc' := 93) rfl (fun c90 => ?_) (fun c90 => ?_)
      ·
        refine WP.iloadN d2_100 rfl (pc' := 101) rfl ?_
        refine WP.sipush d2_101 (z := (8204 : Int32)) rfl (pc' := 104) rfl ?_
        refine WP.icmpLt d2_104 (tgt := 114) (by decide) (pc' := 107) rfl (fun c104 => ?_) (fun c104 => ?_)
        ·
          refine WP.iloadN d2_114 rfl (pc' := 115) rfl ?_
          refine WP.sipush d2_115 (z := (8304 : Int32)) rfl (pc' := 118) rfl ?_
          refine WP.icmpLt d2_118 (tgt := 128) (by decide) (pc' := 121) rfl (fun c118 => ?_) (fun c118 => ?_)
          ·
            refine WP.iloadN d2_128 rfl (pc' := 129) rfl ?_
            refine WP.sipush d2_129 (z := (11264 : Int32)) rfl (pc' := 132) rfl ?_
            refine WP.icmpLt d2_132 (tgt := 142) (by decide) (pc' := 135) rfl (fun c132 => ?_) (fun c132 => ?_)
            ·
              refine WP.iloadN d2_142 rfl (pc' := 143) rfl ?_
              refine WP.sipush d2_143 (z := (12289 : Int32)) rfl (pc' := 146) rfl ?_
              refine WP.icmpLt d2_146 (tgt := 155) (by decide) (pc' := 149) rfl (fun c146 => ?_) (fun c146 => ?_)
              ·
                refine WP.iloadN d2_155 rfl (pc' := 156) rfl ?_
                refine WP.ldcI d2_156 (w17 hw) (pc' := 158) rfl ?_
                refine WP.icmpLt d2_158 (tgt := 167) (by decide) (pc' := 161) rfl (fun c158 => ?_) (fun c158 => ?_)
                ·
                  refine WP.iloadN d2_167 rfl (pc' := 168) rfl ?_
                  refine WP.ldcI d2_168 (w18 hw) (pc' := 170) rfl ?_
                  refine WP.icmpLt d2_170 (tgt := 179) (by decide) (pc' := 173) rfl (fun c170 => ?_) (fun c170 => ?_)
                  ·
                    refine WP.iloadN d2_179 rfl (pc' := 180) rfl ?_
                    refine WP.ldcI d2_180 (w19 hw) (pc' := 182) rfl ?_
                    refine WP.icmpLt d2_182 (tgt := 195) (by decide) (pc' := 185) rfl (fun c182 => ?_) (fun c182 => ?_)
                    ·
                      refine WP.iconst d2_195 (z := (0 : Int32)) rfl (pc' := 196) rfl ?_
                      exact WP.retN d2_196 (t := .boolean) rfl (by simp) (by decide) (by decide) ⟨rfl, 0, own_q0, Or.inr ⟨by decide, by unfold PN; omega⟩⟩
                    exfalso; omega
                  exfalso; omega
                exfalso; omega
              exfalso; omega
            exfalso; omega
          exfalso; omega
        exfalso; omega
      exfalso; omega
    exfalso; omega
  refine WP.iloadN d2_65 rfl (pc' := 66) rfl ?_
  refine WP.sipush d2_66 (z := (767 : Int32)) rfl (pc' := 69) rfl ?_
  refine WP.icmpLe d2_69 (tgt := 191) (by decide) (pc' := 72) rfl (fun c69 => ?_) (fun c69 => ?_)
  ·
    refine WP.iconst d2_191 (z := (1 : Int32)) rfl (pc' := 192) rfl ?_
    refine WP.goto d2_192 (pc' := 196) (by decide) ?_
    exact WP.retN d2_196 (t := .boolean) rfl (by simp) (by decide) (by decide) ⟨rfl, 1, own_q1, Or.inl ⟨by decide, by unfold PN; omega⟩⟩
  refine WP.iloadN d2_72 rfl (pc' := 73) rfl ?_
  refine WP.sipush d2_73 (z := (880 : Int32)) rfl (pc' := 76) rfl ?_
  refine WP.icmpLt d2_76 (tgt := 86) (by decide) (pc' := 79) rfl (fun c76 => ?_) (fun c76 => ?_)
  ·
    refine WP.iloadN d2_86 rfl (pc' := 87) rfl ?_
    refine WP.sipush d2_87 (z := (895 : Int32)) rfl (pc' := 90) rfl ?_
    refine WP.icmpLt d2_90 (tgt := 100) (by decide) (pc' := 93) rfl (fun c90 => ?_) (fun c90 => ?_)
    ·
      refine WP.iloadN d2_100 rfl (pc' := 101) rfl ?_
      refine WP.sipush d2_101 (z := (8204 : Int32)) rfl (pc' := 104) rfl ?_
      refine WP.icmpLt d2_104 (tgt := 114) (by decide) (pc' := 107) rfl (fun c104 => ?_) (fun c104 => ?_)
      ·
        refine WP.iloadN d2_114 rfl (pc' := 115) rfl ?_
        refine WP.sipush d2_115 (z := (8304 : Int32)) rfl (pc' := 118) rfl ?_
        refine WP.icmpLt d2_118 (tgt := 128) (by decide) (pc' := 121) rfl (fun c118 => ?_) (fun c118 => ?_)
        ·
          refine WP.iloadN d2_128 rfl (pc' := 129) rfl ?_
          refine WP.sipush d2_129 (z := (11264 : Int32)) rfl (pc' := 132) rfl ?_
          refine WP.icmpLt d2_132 (tgt := 142) (by decide) (pc' := 135) rfl (fun c132 => ?_) (fun c132 => ?_)
          ·
            refine WP.iloadN d2_142 rfl (pc' := 143) rfl ?_
            refine WP.sipush d2_143 (z := (12289 : Int32)) rfl (pc' := 146) rfl ?_
            refine WP.icmpLt d2_146 (tgt := 155) (by decide) (pc' := 149) rfl (fun c146 => ?_) (fun c146 => ?_)
            ·
              refine WP.iloadN d2_155 rfl (pc' := 156) rfl ?_
              refine WP.ldcI d2_156 (w17 hw) (pc' := 158) rfl ?_
              refine WP.icmpLt d2_158 (tgt := 167) (by decide) (pc' := 161) rfl (fun c158 => ?_) (fun c158 => ?_)
              ·
                refine WP.iloadN d2_167 rfl (pc' := 168) rfl ?_
                refine WP.ldcI d2_168 (w18 hw) (pc' := 170) rfl ?_
                refine WP.icmpLt d2_170 (tgt := 179) (by decide) (pc' := 173) rfl (fun c170 => ?_) (fun c170 => ?_)
                ·
                  refine WP.iloadN d2_179 rfl (pc' := 180) rfl ?_
                  refine WP.ldcI d2_180 (w19 hw) (pc' := 182) rfl ?_
                  refine WP.icmpLt d2_182 (tgt := 195) (by decide) (pc' := 185) rfl (fun c182 => ?_) (fun c182 => ?_)
                  ·
                    refine WP.iconst d2_195 (z := (0 : Int32)) rfl (pc' := 196) rfl ?_
                    exact WP.retN d2_196 (t := .boolean) rfl (by simp) (by decide) (by decide) ⟨rfl, 0, own_q0, Or.inr ⟨by decide, by unfold PN; omega⟩⟩
                  exfalso; omega
                exfalso; omega
              exfalso; omega
            exfalso; omega
          exfalso; omega
        exfalso; omega
      exfalso; omega
    exfalso; omega
  refine WP.iloadN d2_79 rfl (pc' := 80) rfl ?_
  refine WP.sipush d2_80 (z := (893 : Int32)) rfl (pc' := 83) rfl ?_
  refine WP.icmpLe d2_83 (tgt := 191) (by decide) (pc' := 86) rfl (fun c83 => ?_) (fun c83 => ?_)
  ·
    refine WP.iconst d2_191 (z := (1 : Int32)) rfl (pc' := 192) rfl ?_
    refine WP.goto d2_192 (pc' := 196) (by decide) ?_
    exact WP.retN d2_196 (t := .boolean) rfl (by simp) (by decide) (by decide) ⟨rfl, 1, own_q1, Or.inl ⟨by decide, by unfold PN; omega⟩⟩
  refine WP.iloadN d2_86 rfl (pc' := 87) rfl ?_
  refine WP.sipush d2_87 (z := (895 : Int32)) rfl (pc' := 90) rfl ?_
  refine WP.icmpLt d2_90 (tgt := 100) (by decide) (pc' := 93) rfl (fun c90 => ?_) (fun c90 => ?_)
  ·
    refine WP.iloadN d2_100 rfl (pc' := 101) rfl ?_
    refine WP.sipush d2_101 (z := (8204 : Int32)) rfl (pc' := 104) rfl ?_
    refine WP.icmpLt d2_104 (tgt := 114) (by decide) (pc' := 107) rfl (fun c104 => ?_) (fun c104 => ?_)
    ·
      refine WP.iloadN d2_114 rfl (pc' := 115) rfl ?_
      refine WP.sipush d2_115 (z := (8304 : Int32)) rfl (pc' := 118) rfl ?_
      refine WP.icmpLt d2_118 (tgt := 128) (by decide) (pc' := 121) rfl (fun c118 => ?_) (fun c118 => ?_)
      ·
        refine WP.iloadN d2_128 rfl (pc' := 129) rfl ?_
        refine WP.sipush d2_129 (z := (11264 : Int32)) rfl (pc' := 132) rfl ?_
        refine WP.icmpLt d2_132 (tgt := 142) (by decide) (pc' := 135) rfl (fun c132 => ?_) (fun c132 => ?_)
        ·
          refine WP.iloadN d2_142 rfl (pc' := 143) rfl ?_
          refine WP.sipush d2_143 (z := (12289 : Int32)) rfl (pc' := 146) rfl ?_
          refine WP.icmpLt d2_146 (tgt := 155) (by decide) (pc' := 149) rfl (fun c146 => ?_) (fun c146 => ?_)
          ·
            refine WP.iloadN d2_155 rfl (pc' := 156) rfl ?_
            refine WP.ldcI d2_156 (w17 hw) (pc' := 158) rfl ?_
            refine WP.icmpLt d2_158 (tgt := 167) (by decide) (pc' := 161) rfl (fun c158 => ?_) (fun c158 => ?_)
            ·
              refine WP.iloadN d2_167 rfl (pc' := 168) rfl ?_
              refine WP.ldcI d2_168 (w18 hw) (pc' := 170) rfl ?_
              refine WP.icmpLt d2_170 (tgt := 179) (by decide) (pc' := 173) rfl (fun c170 => ?_) (fun c170 => ?_)
              ·
                refine WP.iloadN d2_179 rfl (pc' := 180) rfl ?_
                refine WP.ldcI d2_180 (w19 hw) (pc' := 182) rfl ?_
                refine WP.icmpLt d2_182 (tgt := 195) (by decide) (pc' := 185) rfl (fun c182 => ?_) (fun c182 => ?_)
                ·
                  refine WP.iconst d2_195 (z := (0 : Int32)) rfl (pc' := 196) rfl ?_
                  exact WP.retN d2_196 (t := .boolean) rfl (by simp) (by decide) (by decide) ⟨rfl, 0, own_q0, Or.inr ⟨by decide, by unfold PN; omega⟩⟩
                exfalso; omega
              exfalso; omega
            exfalso; omega
          exfalso; omega
        exfalso; omega
      exfalso; omega
    exfalso; omega
  refine WP.iloadN d2_93 rfl (pc' := 94) rfl ?_
  refine WP.sipush d2_94 (z := (8191 : Int32)) rfl (pc' := 97) rfl ?_
  refine WP.icmpLe d2_97 (tgt := 191) (by decide) (pc' := 100) rfl (fun c97 => ?_) (fun c97 => ?_)
  ·
    refine WP.iconst d2_191 (z := (1 : Int32)) rfl (pc' := 192) rfl ?_
    refine WP.goto d2_192 (pc' := 196) (by decide) ?_
    exact WP.retN d2_196 (t := .boolean) rfl (by simp) (by decide) (by decide) ⟨rfl, 1, own_q1, Or.inl ⟨by decide, by unfold PN; omega⟩⟩
  refine WP.iloadN d2_100 rfl (pc' := 101) rfl ?_
  refine WP.sipush d2_101 (z := (8204 : Int32)) rfl (pc' := 104) rfl ?_
  refine WP.icmpLt d2_104 (tgt := 114) (by decide) (pc' := 107) rfl (fun c104 => ?_) (fun c104 => ?_)
  ·
    refine WP.iloadN d2_114 rfl (pc' := 115) rfl ?_
    refine WP.sipush d2_115 (z := (8304 : Int32)) rfl (pc' := 118) rfl ?_
    refine WP.icmpLt d2_118 (tgt := 128) (by decide) (pc' := 121) rfl (fun c118 => ?_) (fun c118 => ?_)
    ·
      refine WP.iloadN d2_128 rfl (pc' := 129) rfl ?_
      refine WP.sipush d2_129 (z := (11264 : Int32)) rfl (pc' := 132) rfl ?_
      refine WP.icmpLt d2_132 (tgt := 142) (by decide) (pc' := 135) rfl (fun c132 => ?_) (fun c132 => ?_)
      ·
        refine WP.iloadN d2_142 rfl (pc' := 143) rfl ?_
        refine WP.sipush d2_143 (z := (12289 : Int32)) rfl (pc' := 146) rfl ?_
        refine WP.icmpLt d2_146 (tgt := 155) (by decide) (pc' := 149) rfl (fun c146 => ?_) (fun c146 => ?_)
        ·
          refine WP.iloadN d2_155 rfl (pc' := 156) rfl ?_
          refine WP.ldcI d2_156 (w17 hw) (pc' := 158) rfl ?_
          refine WP.icmpLt d2_158 (tgt := 167) (by decide) (pc' := 161) rfl (fun c158 => ?_) (fun c158 => ?_)
          ·
            refine WP.iloadN d2_167 rfl (pc' := 168) rfl ?_
            refine WP.ldcI d2_168 (w18 hw) (pc' := 170) rfl ?_
            refine WP.icmpLt d2_170 (tgt := 179) (by decide) (pc' := 173) rfl (fun c170 => ?_) (fun c170 => ?_)
            ·
              refine WP.iloadN d2_179 rfl (pc' := 180) rfl ?_
              refine WP.ldcI d2_180 (w19 hw) (pc' := 182) rfl ?_
              refine WP.icmpLt d2_182 (tgt := 195) (by decide) (pc' := 185) rfl (fun c182 => ?_) (fun c182 => ?_)
              ·
                refine WP.iconst d2_195 (z := (0 : Int32)) rfl (pc' := 196) rfl ?_
                exact WP.retN d2_196 (t := .boolean) rfl (by simp) (by decide) (by decide) ⟨rfl, 0, own_q0, Or.inr ⟨by decide, by unfold PN; omega⟩⟩
              exfalso; omega
            exfalso; omega
          exfalso; omega
        exfalso; omega
      exfalso; omega
    exfalso; omega
  refine WP.iloadN d2_107 rfl (pc' := 108) rfl ?_
  refine WP.sipush d2_108 (z := (8205 : Int32)) rfl (pc' := 111) rfl ?_
  refine WP.icmpLe d2_111 (tgt := 191) (by decide) (pc' := 114) rfl (fun c111 => ?_) (fun c111 => ?_)
  ·
    refine WP.iconst d2_191 (z := (1 : Int32)) rfl (pc' := 192) rfl ?_
    refine WP.goto d2_192 (pc' := 196) (by decide) ?_
    exact WP.retN d2_196 (t := .boolean) rfl (by simp) (by decide) (by decide) ⟨rfl, 1, own_q1, Or.inl ⟨by decide, by unfold PN; omega⟩⟩
  refine WP.iloadN d2_114 rfl (pc' := 115) rfl ?_
  refine WP.sipush d2_115 (z := (8304 : Int32)) rfl (pc' := 118) rfl ?_
  refine WP.icmpLt d2_118 (tgt := 128) (by decide) (pc' := 121) rfl (fun c118 => ?_) (fun c118 => ?_)
  ·
    refine WP.iloadN d2_128 rfl (pc' := 129) rfl ?_
    refine WP.sipush d2_129 (z := (11264 : Int32)) rfl (pc' := 132) rfl ?_
    refine WP.icmpLt d2_132 (tgt := 142) (by decide) (pc' := 135) rfl (fun c132 => ?_) (fun c132 => ?_)
    ·
      refine WP.iloadN d2_142 rfl (pc' := 143) rfl ?_
      refine WP.sipush d2_143 (z := (12289 : Int32)) rfl (pc' := 146) rfl ?_
      refine WP.icmpLt d2_146 (tgt := 155) (by decide) (pc' := 149) rfl (fun c146 => ?_) (fun c146 => ?_)
      ·
        refine WP.iloadN d2_155 rfl (pc' := 156) rfl ?_
        refine WP.ldcI d2_156 (w17 hw) (pc' := 158) rfl ?_
        refine WP.icmpLt d2_158 (tgt := 167) (by decide) (pc' := 161) rfl (fun c158 => ?_) (fun c158 => ?_)
        ·
          refine WP.iloadN d2_167 rfl (pc' := 168) rfl ?_
          refine WP.ldcI d2_168 (w18 hw) (pc' := 170) rfl ?_
          refine WP.icmpLt d2_170 (tgt := 179) (by decide) (pc' := 173) rfl (fun c170 => ?_) (fun c170 => ?_)
          ·
            refine WP.iloadN d2_179 rfl (pc' := 180) rfl ?_
            refine WP.ldcI d2_180 (w19 hw) (pc' := 182) rfl ?_
            refine WP.icmpLt d2_182 (tgt := 195) (by decide) (pc' := 185) rfl (fun c182 => ?_) (fun c182 => ?_)
            ·
              refine WP.iconst d2_195 (z := (0 : Int32)) rfl (pc' := 196) rfl ?_
              exact WP.retN d2_196 (t := .boolean) rfl (by simp) (by decide) (by decide) ⟨rfl, 0, own_q0, Or.inr ⟨by decide, by unfold PN; omega⟩⟩
            exfalso; omega
          exfalso; omega
        exfalso; omega
      exfalso; omega
    exfalso; omega
  refine WP.iloadN d2_121 rfl (pc' := 122) rfl ?_
  refine WP.sipush d2_122 (z := (8591 : Int32)) rfl (pc' := 125) rfl ?_
  refine WP.icmpLe d2_125 (tgt := 191) (by decide) (pc' := 128) rfl (fun c125 => ?_) (fun c125 => ?_)
  ·
    refine WP.iconst d2_191 (z := (1 : Int32)) rfl (pc' := 192) rfl ?_
    refine WP.goto d2_192 (pc' := 196) (by decide) ?_
    exact WP.retN d2_196 (t := .boolean) rfl (by simp) (by decide) (by decide) ⟨rfl, 1, own_q1, Or.inl ⟨by decide, by unfold PN; omega⟩⟩
  refine WP.iloadN d2_128 rfl (pc' := 129) rfl ?_
  refine WP.sipush d2_129 (z := (11264 : Int32)) rfl (pc' := 132) rfl ?_
  refine WP.icmpLt d2_132 (tgt := 142) (by decide) (pc' := 135) rfl (fun c132 => ?_) (fun c132 => ?_)
  ·
    refine WP.iloadN d2_142 rfl (pc' := 143) rfl ?_
    refine WP.sipush d2_143 (z := (12289 : Int32)) rfl (pc' := 146) rfl ?_
    refine WP.icmpLt d2_146 (tgt := 155) (by decide) (pc' := 149) rfl (fun c146 => ?_) (fun c146 => ?_)
    ·
      refine WP.iloadN d2_155 rfl (pc' := 156) rfl ?_
      refine WP.ldcI d2_156 (w17 hw) (pc' := 158) rfl ?_
      refine WP.icmpLt d2_158 (tgt := 167) (by decide) (pc' := 161) rfl (fun c158 => ?_) (fun c158 => ?_)
      ·
        refine WP.iloadN d2_167 rfl (pc' := 168) rfl ?_
        refine WP.ldcI d2_168 (w18 hw) (pc' := 170) rfl ?_
        refine WP.icmpLt d2_170 (tgt := 179) (by decide) (pc' := 173) rfl (fun c170 => ?_) (fun c170 => ?_)
        ·
          refine WP.iloadN d2_179 rfl (pc' := 180) rfl ?_
          refine WP.ldcI d2_180 (w19 hw) (pc' := 182) rfl ?_
          refine WP.icmpLt d2_182 (tgt := 195) (by decide) (pc' := 185) rfl (fun c182 => ?_) (fun c182 => ?_)
          ·
            refine WP.iconst d2_195 (z := (0 : Int32)) rfl (pc' := 196) rfl ?_
            exact WP.retN d2_196 (t := .boolean) rfl (by simp) (by decide) (by decide) ⟨rfl, 0, own_q0, Or.inr ⟨by decide, by unfold PN; omega⟩⟩
          exfalso; omega
        exfalso; omega
      exfalso; omega
    exfalso; omega
  refine WP.iloadN d2_135 rfl (pc' := 136) rfl ?_
  refine WP.sipush d2_136 (z := (12271 : Int32)) rfl (pc' := 139) rfl ?_
  refine WP.icmpLe d2_139 (tgt := 191) (by decide) (pc' := 142) rfl (fun c139 => ?_) (fun c139 => ?_)
  ·
    refine WP.iconst d2_191 (z := (1 : Int32)) rfl (pc' := 192) rfl ?_
    refine WP.goto d2_192 (pc' := 196) (by decide) ?_
    exact WP.retN d2_196 (t := .boolean) rfl (by simp) (by decide) (by decide) ⟨rfl, 1, own_q1, Or.inl ⟨by decide, by unfold PN; omega⟩⟩
  refine WP.iloadN d2_142 rfl (pc' := 143) rfl ?_
  refine WP.sipush d2_143 (z := (12289 : Int32)) rfl (pc' := 146) rfl ?_
  refine WP.icmpLt d2_146 (tgt := 155) (by decide) (pc' := 149) rfl (fun c146 => ?_) (fun c146 => ?_)
  ·
    refine WP.iloadN d2_155 rfl (pc' := 156) rfl ?_
    refine WP.ldcI d2_156 (w17 hw) (pc' := 158) rfl ?_
    refine WP.icmpLt d2_158 (tgt := 167) (by decide) (pc' := 161) rfl (fun c158 => ?_) (fun c158 => ?_)
    ·
      refine WP.iloadN d2_167 rfl (pc' := 168) rfl ?_
      refine WP.ldcI d2_168 (w18 hw) (pc' := 170) rfl ?_
      refine WP.icmpLt d2_170 (tgt := 179) (by decide) (pc' := 173) rfl (fun c170 => ?_) (fun c170 => ?_)
      ·
        refine WP.iloadN d2_179 rfl (pc' := 180) rfl ?_
        refine WP.ldcI d2_180 (w19 hw) (pc' := 182) rfl ?_
        refine WP.icmpLt d2_182 (tgt := 195) (by decide) (pc' := 185) rfl (fun c182 => ?_) (fun c182 => ?_)
        ·
          refine WP.iconst d2_195 (z := (0 : Int32)) rfl (pc' := 196) rfl ?_
          exact WP.retN d2_196 (t := .boolean) rfl (by simp) (by decide) (by decide) ⟨rfl, 0, own_q0, Or.inr ⟨by decide, by unfold PN; omega⟩⟩
        exfalso; omega
      exfalso; omega
    exfalso; omega
  refine WP.iloadN d2_149 rfl (pc' := 150) rfl ?_
  refine WP.ldcI d2_150 (w26 hw) (pc' := 152) rfl ?_
  refine WP.icmpLe d2_152 (tgt := 191) (by decide) (pc' := 155) rfl (fun c152 => ?_) (fun c152 => ?_)
  ·
    refine WP.iconst d2_191 (z := (1 : Int32)) rfl (pc' := 192) rfl ?_
    refine WP.goto d2_192 (pc' := 196) (by decide) ?_
    exact WP.retN d2_196 (t := .boolean) rfl (by simp) (by decide) (by decide) ⟨rfl, 1, own_q1, Or.inl ⟨by decide, by unfold PN; omega⟩⟩
  refine WP.iloadN d2_155 rfl (pc' := 156) rfl ?_
  refine WP.ldcI d2_156 (w17 hw) (pc' := 158) rfl ?_
  refine WP.icmpLt d2_158 (tgt := 167) (by decide) (pc' := 161) rfl (fun c158 => ?_) (fun c158 => ?_)
  ·
    refine WP.iloadN d2_167 rfl (pc' := 168) rfl ?_
    refine WP.ldcI d2_168 (w18 hw) (pc' := 170) rfl ?_
    refine WP.icmpLt d2_170 (tgt := 179) (by decide) (pc' := 173) rfl (fun c170 => ?_) (fun c170 => ?_)
    ·
      refine WP.iloadN d2_179 rfl (pc' := 180) rfl ?_
      refine WP.ldcI d2_180 (w19 hw) (pc' := 182) rfl ?_
      refine WP.icmpLt d2_182 (tgt := 195) (by decide) (pc' := 185) rfl (fun c182 => ?_) (fun c182 => ?_)
      ·
        refine WP.iconst d2_195 (z := (0 : Int32)) rfl (pc' := 196) rfl ?_
        exact WP.retN d2_196 (t := .boolean) rfl (by simp) (by decide) (by decide) ⟨rfl, 0, own_q0, Or.inr ⟨by decide, by unfold PN; omega⟩⟩
      exfalso; omega
    exfalso; omega
  refine WP.iloadN d2_161 rfl (pc' := 162) rfl ?_
  refine WP.ldcI d2_162 (w27 hw) (pc' := 164) rfl ?_
  refine WP.icmpLe d2_164 (tgt := 191) (by decide) (pc' := 167) rfl (fun c164 => ?_) (fun c164 => ?_)
  ·
    refine WP.iconst d2_191 (z := (1 : Int32)) rfl (pc' := 192) rfl ?_
    refine WP.goto d2_192 (pc' := 196) (by decide) ?_
    exact WP.retN d2_196 (t := .boolean) rfl (by simp) (by decide) (by decide) ⟨rfl, 1, own_q1, Or.inl ⟨by decide, by unfold PN; omega⟩⟩
  refine WP.iloadN d2_167 rfl (pc' := 168) rfl ?_
  refine WP.ldcI d2_168 (w18 hw) (pc' := 170) rfl ?_
  refine WP.icmpLt d2_170 (tgt := 179) (by decide) (pc' := 173) rfl (fun c170 => ?_) (fun c170 => ?_)
  ·
    refine WP.iloadN d2_179 rfl (pc' := 180) rfl ?_
    refine WP.ldcI d2_180 (w19 hw) (pc' := 182) rfl ?_
    refine WP.icmpLt d2_182 (tgt := 195) (by decide) (pc' := 185) rfl (fun c182 => ?_) (fun c182 => ?_)
    ·
      refine WP.iconst d2_195 (z := (0 : Int32)) rfl (pc' := 196) rfl ?_
      exact WP.retN d2_196 (t := .boolean) rfl (by simp) (by decide) (by decide) ⟨rfl, 0, own_q0, Or.inr ⟨by decide, by unfold PN; omega⟩⟩
    exfalso; omega
  refine WP.iloadN d2_173 rfl (pc' := 174) rfl ?_
  refine WP.ldcI d2_174 (w28 hw) (pc' := 176) rfl ?_
  refine WP.icmpLe d2_176 (tgt := 191) (by decide) (pc' := 179) rfl (fun c176 => ?_) (fun c176 => ?_)
  ·
    refine WP.iconst d2_191 (z := (1 : Int32)) rfl (pc' := 192) rfl ?_
    refine WP.goto d2_192 (pc' := 196) (by decide) ?_
    exact WP.retN d2_196 (t := .boolean) rfl (by simp) (by decide) (by decide) ⟨rfl, 1, own_q1, Or.inl ⟨by decide, by unfold PN; omega⟩⟩
  refine WP.iloadN d2_179 rfl (pc' := 180) rfl ?_
  refine WP.ldcI d2_180 (w19 hw) (pc' := 182) rfl ?_
  refine WP.icmpLt d2_182 (tgt := 195) (by decide) (pc' := 185) rfl (fun c182 => ?_) (fun c182 => ?_)
  ·
    refine WP.iconst d2_195 (z := (0 : Int32)) rfl (pc' := 196) rfl ?_
    exact WP.retN d2_196 (t := .boolean) rfl (by simp) (by decide) (by decide) ⟨rfl, 0, own_q0, Or.inr ⟨by decide, by unfold PN; omega⟩⟩
  refine WP.iloadN d2_185 rfl (pc' := 186) rfl ?_
  refine WP.ldcI d2_186 (w29 hw) (pc' := 188) rfl ?_
  refine WP.icmpGt d2_188 (tgt := 195) (by decide) (pc' := 191) rfl (fun c188 => ?_) (fun c188 => ?_)
  ·
    refine WP.iconst d2_195 (z := (0 : Int32)) rfl (pc' := 196) rfl ?_
    exact WP.retN d2_196 (t := .boolean) rfl (by simp) (by decide) (by decide) ⟨rfl, 0, own_q0, Or.inr ⟨by decide, by unfold PN; omega⟩⟩
  refine WP.iconst d2_191 (z := (1 : Int32)) rfl (pc' := 192) rfl ?_
  refine WP.goto d2_192 (pc' := 196) (by decide) ?_
  exact WP.retN d2_196 (t := .boolean) rfl (by simp) (by decide) (by decide) ⟨rfl, 1, own_q1, Or.inl ⟨by decide, by unfold PN; omega⟩⟩
theorem cnt_met {l : Launch} {Z : State} {a0 : Array Value} (hw : HW Z a0) {n0 : Nat} {h : Heap} (a : Addr) (k : Int32) (A_a : Av Z h a .int EV) : OMet l (⟨"com/example/chronoxyl/chronoxyl/history/XmlIsNameStartPinLaw", "countAtMost", "([II)I"⟩ : MethodName) B4 Z n0 #[(.ref a), (.int k)] h (fun v h' => h = h' ∧ ∃ r : Int32, v = some (.int r) ∧ 0 ≤ r.toInt ∧ r.toInt ≤ 32 ∧ ((r.toInt % 2 = 1 ∧ PN k.toInt) ∨ (r.toInt % 2 = 0 ∧ ¬ PN k.toInt))) := by
  refine OMet.of_wp (ls0 := #[.val (.ref a), .val (.int k), .unset]) pl4 rfl rfl (fun m => by first | rfl | (simp [entryFrame, mkF, argsToLocals, Value.category, B4]; done)) ?_
  have k32_0 : (0 : Int32).toInt = 0 := by decide
  have k32_1 : (1 : Int32).toInt = 1 := by decide
  have k32_2 : (2 : Int32).toInt = 2 := by decide
  have k32_3 : (3 : Int32).toInt = 3 := by decide
  have k32_4 : (4 : Int32).toInt = 4 := by decide
  have k32_5 : (5 : Int32).toInt = 5 := by decide
  have k32_6 : (6 : Int32).toInt = 6 := by decide
  have k32_7 : (7 : Int32).toInt = 7 := by decide
  have k32_8 : (8 : Int32).toInt = 8 := by decide
  have k32_9 : (9 : Int32).toInt = 9 := by decide
  have k32_10 : (10 : Int32).toInt = 10 := by decide
  have k32_11 : (11 : Int32).toInt = 11 := by decide
  have k32_12 : (12 : Int32).toInt = 12 := by decide
  have k32_13 : (13 : Int32).toInt = 13 := by decide
  have k32_14 : (14 : Int32).toInt = 14 := by decide
  have k32_15 : (15 : Int32).toInt = 15 := by decide
  have k32_16 : (16 : Int32).toInt = 16 := by decide
  have k32_17 : (17 : Int32).toInt = 17 := by decide
  have k32_18 : (18 : Int32).toInt = 18 := by decide
  have k32_19 : (19 : Int32).toInt = 19 := by decide
  have k32_20 : (20 : Int32).toInt = 20 := by decide
  have k32_21 : (21 : Int32).toInt = 21 := by decide
  have k32_22 : (22 : Int32).toInt = 22 := by decide
  have k32_23 : (23 : Int32).toInt = 23 := by decide
  have k32_24 : (24 : Int32).toInt = 24 := by decide
  have k32_25 : (25 : Int32).toInt = 25 := by decide
  have k32_26 : (26 : Int32).toInt = 26 := by decide
  have k32_27 : (27 : Int32).toInt = 27 := by decide
  have k32_28 : (28 : Int32).toInt = 28 := by decide
  have k32_29 : (29 : Int32).toInt = 29 := by decide
  have k32_30 : (30 : Int32).toInt = 30 := by decide
  have k32_31 : (31 : Int32).toInt = 31 := by decide
  have k32_32 : (32 : Int32).toInt = 32 := by decide
  have k32_65 : (65 : Int32).toInt = 65 := by decide
  have k32_91 : (91 : Int32).toInt = 91 := by decide
  have k32_95 : (95 : Int32).toInt = 95 := by decide
  have k32_96 : (96 : Int32).toInt = 96 := by decide
  have k32_97 : (97 : Int32).toInt = 97 := by decide
  have k32_123 : (123 : Int32).toInt = 123 := by decide
  have k32_192 : (192 : Int32).toInt = 192 := by decide
  have k32_215 : (215 : Int32).toInt = 215 := by decide
  have k32_216 : (216 : Int32).toInt = 216 := by decide
  have k32_247 : (247 : Int32).toInt = 247 := by decide
  have k32_248 : (248 : Int32).toInt = 248 := by decide
  have k32_768 : (768 : Int32).toInt = 768 := by decide
  have k32_880 : (880 : Int32).toInt = 880 := by decide
  have k32_894 : (894 : Int32).toInt = 894 := by decide
  have k32_895 : (895 : Int32).toInt = 895 := by decide
  have k32_8192 : (8192 : Int32).toInt = 8192 := by decide
  have k32_8204 : (8204 : Int32).toInt = 8204 := by decide
  have k32_8206 : (8206 : Int32).toInt = 8206 := by decide
  have k32_8304 : (8304 : Int32).toInt = 8304 := by decide
  have k32_8592 : (8592 : Int32).toInt = 8592 := by decide
  have k32_11264 : (11264 : Int32).toInt = 11264 := by decide
  have k32_12272 : (12272 : Int32).toInt = 12272 := by decide
  have k32_12289 : (12289 : Int32).toInt = 12289 := by decide
  have k32_55296 : (55296 : Int32).toInt = 55296 := by decide
  have k32_63744 : (63744 : Int32).toInt = 63744 := by decide
  have k32_64976 : (64976 : Int32).toInt = 64976 := by decide
  have k32_65008 : (65008 : Int32).toInt = 65008 := by decide
  have k32_65534 : (65534 : Int32).toInt = 65534 := by decide
  have k32_65536 : (65536 : Int32).toInt = 65536 := by decide
  have k32_983040 : (983040 : Int32).toInt = 983040 := by decide
  have k32_2147483647 : (2147483647 : Int32).toInt = 2147483647 := by decide
  refine WP.iloadN d4_0 rfl (pc' := 1) rfl ?_
  refine WP.aloadN d4_1 rfl rfl (pc' := 2) rfl ?_
  refine WP.iconst d4_2 (z := (0 : Int32)) rfl (pc' := 3) rfl ?_
  refine WP.iaload 0 d4_3 A_a (x := (65 : Int32)) rfl rfl (pc' := 4) rfl ?_
  refine WP.icmpGe d4_4 (tgt := 9) (by decide) (pc' := 7) rfl (fun c4 => ?_) (fun c4 => ?_)
  ·
    refine WP.iconst d4_9 (z := (0 : Int32)) rfl (pc' := 10) rfl ?_
    refine WP.istoreN d4_10 (pc' := 11) rfl (ls' := #[.val (.ref a), .val (.int k), .val (.int (0 : Int32))]) rfl ?_
    refine WP.iloadN d4_11 rfl (pc' := 12) rfl ?_
    refine WP.aloadN d4_12 rfl rfl (pc' := 13) rfl ?_
    refine WP.iloadN d4_13 rfl (pc' := 14) rfl ?_
    refine WP.bipush d4_14 (z := (16 : Int32)) rfl (pc' := 16) rfl ?_
    refine WP.iadd d4_16 (pc' := 17) rfl ?_
    rw [show (((0 : Int32) + (16 : Int32)) : Int32) = (16 : Int32) from by decide]
    refine WP.iaload 16 d4_17 A_a (x := (8204 : Int32)) rfl rfl (pc' := 18) rfl ?_
    refine WP.icmpLt d4_18 (tgt := 24) (by decide) (pc' := 21) rfl (fun c18 => ?_) (fun c18 => ?_)
    ·
      refine WP.iloadN d4_24 rfl (pc' := 25) rfl ?_
      refine WP.aloadN d4_25 rfl rfl (pc' := 26) rfl ?_
      refine WP.iloadN d4_26 rfl (pc' := 27) rfl ?_
      refine WP.bipush d4_27 (z := (8 : Int32)) rfl (pc' := 29) rfl ?_
      refine WP.iadd d4_29 (pc' := 30) rfl ?_
      rw [show (((0 : Int32) + (8 : Int32)) : Int32) = (8 : Int32) from by decide]
      refine WP.iaload 8 d4_30 A_a (x := (216 : Int32)) rfl rfl (pc' := 31) rfl ?_
      refine WP.icmpLt d4_31 (tgt := 37) (by decide) (pc' := 34) rfl (fun c31 => ?_) (fun c31 => ?_)
      ·
        refine WP.iloadN d4_37 rfl (pc' := 38) rfl ?_
        refine WP.aloadN d4_38 rfl rfl (pc' := 39) rfl ?_
        refine WP.iloadN d4_39 rfl (pc' := 40) rfl ?_
        refine WP.iconst d4_40 (z := (4 : Int32)) rfl (pc' := 41) rfl ?_
        refine WP.iadd d4_41 (pc' := 42) rfl ?_
        rw [show (((0 : Int32) + (4 : Int32)) : Int32) = (4 : Int32) from by decide]
        refine WP.iaload 4 d4_42 A_a (x := (97 : Int32)) rfl rfl (pc' := 43) rfl ?_
        refine WP.icmpLt d4_43 (tgt := 49) (by decide) (pc' := 46) rfl (fun c43 => ?_) (fun c43 => ?_)
        ·
          refine WP.iloadN d4_49 rfl (pc' := 50) rfl ?_
          refine WP.aloadN d4_50 rfl rfl (pc' := 51) rfl ?_
          refine WP.iloadN d4_51 rfl (pc' := 52) rfl ?_
          refine WP.iconst d4_52 (z := (2 : Int32)) rfl (pc' := 53) rfl ?_
          refine WP.iadd d4_53 (pc' := 54) rfl ?_
          rw [show (((0 : Int32) + (2 : Int32)) : Int32) = (2 : Int32) from by decide]
          refine WP.iaload 2 d4_54 A_a (x := (95 : Int32)) rfl rfl (pc' := 55) rfl ?_
          refine WP.icmpLt d4_55 (tgt := 61) (by decide) (pc' := 58) rfl (fun c55 => ?_) (fun c55 => ?_)
          ·
            refine WP.iloadN d4_61 rfl (pc' := 62) rfl ?_
            refine WP.aloadN d4_62 rfl rfl (pc' := 63) rfl ?_
            refine WP.iloadN d4_63 rfl (pc' := 64) rfl ?_
            refine WP.iconst d4_64 (z := (1 : Int32)) rfl (pc' := 65) rfl ?_
            refine WP.iadd d4_65 (pc' := 66) rfl ?_
            rw [show (((0 : Int32) + (1 : Int32)) : Int32) = (1 : Int32) from by decide]
            refine WP.iaload 1 d4_66 A_a (x := (91 : Int32)) rfl rfl (pc' := 67) rfl ?_
            refine WP.icmpLt d4_67 (tgt := 73) (by decide) (pc' := 70) rfl (fun c67 => ?_) (fun c67 => ?_)
            ·
              refine WP.iloadN d4_73 rfl (pc' := 74) rfl ?_
              refine WP.iconst d4_74 (z := (1 : Int32)) rfl (pc' := 75) rfl ?_
              refine WP.iadd d4_75 (pc' := 76) rfl ?_
              rw [show (((0 : Int32) + (1 : Int32)) : Int32) = (1 : Int32) from by decide]
              exact WP.retI d4_76 rfl (by decide) (by decide) ⟨rfl, _, rfl, by decide, by decide, by unfold PN; exact Or.inl ⟨by decide, by omega⟩⟩
            refine WP.iinc d4_70 (pc' := 73) rfl rfl (y := (1 : Int32)) (by decide) (ls' := #[.val (.ref a), .val (.int k), .val (.int (1 : Int32))]) rfl ?_
            refine WP.iloadN d4_73 rfl (pc' := 74) rfl ?_
            refine WP.iconst d4_74 (z := (1 : Int32)) rfl (pc' := 75) rfl ?_
            refine WP.iadd d4_75 (pc' := 76) rfl ?_
            rw [show (((1 : Int32) + (1 : Int32)) : Int32) = (2 : Int32) from by decide]
            exact WP.retI d4_76 rfl (by decide) (by decide) ⟨rfl, _, rfl, by decide, by decide, by unfold PN; exact Or.inr ⟨by decide, by omega⟩⟩
          refine WP.iinc d4_58 (pc' := 61) rfl rfl (y := (2 : Int32)) (by decide) (ls' := #[.val (.ref a), .val (.int k), .val (.int (2 : Int32))]) rfl ?_
          refine WP.iloadN d4_61 rfl (pc' := 62) rfl ?_
          refine WP.aloadN d4_62 rfl rfl (pc' := 63) rfl ?_
          refine WP.iloadN d4_63 rfl (pc' := 64) rfl ?_
          refine WP.iconst d4_64 (z := (1 : Int32)) rfl (pc' := 65) rfl ?_
          refine WP.iadd d4_65 (pc' := 66) rfl ?_
          rw [show (((2 : Int32) + (1 : Int32)) : Int32) = (3 : Int32) from by decide]
          refine WP.iaload 3 d4_66 A_a (x := (96 : Int32)) rfl rfl (pc' := 67) rfl ?_
          refine WP.icmpLt d4_67 (tgt := 73) (by decide) (pc' := 70) rfl (fun c67 => ?_) (fun c67 => ?_)
          ·
            refine WP.iloadN d4_73 rfl (pc' := 74) rfl ?_
            refine WP.iconst d4_74 (z := (1 : Int32)) rfl (pc' := 75) rfl ?_
            refine WP.iadd d4_75 (pc' := 76) rfl ?_
            rw [show (((2 : Int32) + (1 : Int32)) : Int32) = (3 : Int32) from by decide]
            exact WP.retI d4_76 rfl (by decide) (by decide) ⟨rfl, _, rfl, by decide, by decide, by unfold PN; exact Or.inl ⟨by decide, by omega⟩⟩
          refine WP.iinc d4_70 (pc' := 73) rfl rfl (y := (3 : Int32)) (by decide) (ls' := #[.val (.ref a), .val (.int k), .val (.int (3 : Int32))]) rfl ?_
          refine WP.iloadN d4_73 rfl (pc' := 74) rfl ?_
          refine WP.iconst d4_74 (z := (1 : Int32)) rfl (pc' := 75) rfl ?_
          refine WP.iadd d4_75 (pc' := 76) rfl ?_
          rw [show (((3 : Int32) + (1 : Int32)) : Int32) = (4 : Int32) from by decide]
          exact WP.retI d4_76 rfl (by decide) (by decide) ⟨rfl, _, rfl, by decide, by decide, by unfold PN; exact Or.inr ⟨by decide, by omega⟩⟩
        refine WP.iinc d4_46 (pc' := 49) rfl rfl (y := (4 : Int32)) (by decide) (ls' := #[.val (.ref a), .val (.int k), .val (.int (4 : Int32))]) rfl ?_
        refine WP.iloadN d4_49 rfl (pc' := 50) rfl ?_
        refine WP.aloadN d4_50 rfl rfl (pc' := 51) rfl ?_
        refine WP.iloadN d4_51 rfl (pc' := 52) rfl ?_
        refine WP.iconst d4_52 (z := (2 : Int32)) rfl (pc' := 53) rfl ?_
        refine WP.iadd d4_53 (pc' := 54) rfl ?_
        rw [show (((4 : Int32) + (2 : Int32)) : Int32) = (6 : Int32) from by decide]
        refine WP.iaload 6 d4_54 A_a (x := (192 : Int32)) rfl rfl (pc' := 55) rfl ?_
        refine WP.icmpLt d4_55 (tgt := 61) (by decide) (pc' := 58) rfl (fun c55 => ?_) (fun c55 => ?_)
        ·
          refine WP.iloadN d4_61 rfl (pc' := 62) rfl ?_
          refine WP.aloadN d4_62 rfl rfl (pc' := 63) rfl ?_
          refine WP.iloadN d4_63 rfl (pc' := 64) rfl ?_
          refine WP.iconst d4_64 (z := (1 : Int32)) rfl (pc' := 65) rfl ?_
          refine WP.iadd d4_65 (pc' := 66) rfl ?_
          rw [show (((4 : Int32) + (1 : Int32)) : Int32) = (5 : Int32) from by decide]
          refine WP.iaload 5 d4_66 A_a (x := (123 : Int32)) rfl rfl (pc' := 67) rfl ?_
          refine WP.icmpLt d4_67 (tgt := 73) (by decide) (pc' := 70) rfl (fun c67 => ?_) (fun c67 => ?_)
          ·
            refine WP.iloadN d4_73 rfl (pc' := 74) rfl ?_
            refine WP.iconst d4_74 (z := (1 : Int32)) rfl (pc' := 75) rfl ?_
            refine WP.iadd d4_75 (pc' := 76) rfl ?_
            rw [show (((4 : Int32) + (1 : Int32)) : Int32) = (5 : Int32) from by decide]
            exact WP.retI d4_76 rfl (by decide) (by decide) ⟨rfl, _, rfl, by decide, by decide, by unfold PN; exact Or.inl ⟨by decide, by omega⟩⟩
          refine WP.iinc d4_70 (pc' := 73) rfl rfl (y := (5 : Int32)) (by decide) (ls' := #[.val (.ref a), .val (.int k), .val (.int (5 : Int32))]) rfl ?_
          refine WP.iloadN d4_73 rfl (pc' := 74) rfl ?_
          refine WP.iconst d4_74 (z := (1 : Int32)) rfl (pc' := 75) rfl ?_
          refine WP.iadd d4_75 (pc' := 76) rfl ?_
          rw [show (((5 : Int32) + (1 : Int32)) : Int32) = (6 : Int32) from by decide]
          exact WP.retI d4_76 rfl (by decide) (by decide) ⟨rfl, _, rfl, by decide, by decide, by unfold PN; exact Or.inr ⟨by decide, by omega⟩⟩
        refine WP.iinc d4_58 (pc' := 61) rfl rfl (y := (6 : Int32)) (by decide) (ls' := #[.val (.ref a), .val (.int k), .val (.int (6 : Int32))]) rfl ?_
        refine WP.iloadN d4_61 rfl (pc' := 62) rfl ?_
        refine WP.aloadN d4_62 rfl rfl (pc' := 63) rfl ?_
        refine WP.iloadN d4_63 rfl (pc' := 64) rfl ?_
        refine WP.iconst d4_64 (z := (1 : Int32)) rfl (pc' := 65) rfl ?_
        refine WP.iadd d4_65 (pc' := 66) rfl ?_
        rw [show (((6 : Int32) + (1 : Int32)) : Int32) = (7 : Int32) from by decide]
        refine WP.iaload 7 d4_66 A_a (x := (215 : Int32)) rfl rfl (pc' := 67) rfl ?_
        refine WP.icmpLt d4_67 (tgt := 73) (by decide) (pc' := 70) rfl (fun c67 => ?_) (fun c67 => ?_)
        ·
          refine WP.iloadN d4_73 rfl (pc' := 74) rfl ?_
          refine WP.iconst d4_74 (z := (1 : Int32)) rfl (pc' := 75) rfl ?_
          refine WP.iadd d4_75 (pc' := 76) rfl ?_
          rw [show (((6 : Int32) + (1 : Int32)) : Int32) = (7 : Int32) from by decide]
          exact WP.retI d4_76 rfl (by decide) (by decide) ⟨rfl, _, rfl, by decide, by decide, by unfold PN; exact Or.inl ⟨by decide, by omega⟩⟩
        refine WP.iinc d4_70 (pc' := 73) rfl rfl (y := (7 : Int32)) (by decide) (ls' := #[.val (.ref a), .val (.int k), .val (.int (7 : Int32))]) rfl ?_
        refine WP.iloadN d4_73 rfl (pc' := 74) rfl ?_
        refine WP.iconst d4_74 (z := (1 : Int32)) rfl (pc' := 75) rfl ?_
        refine WP.iadd d4_75 (pc' := 76) rfl ?_
        rw [show (((7 : Int32) + (1 : Int32)) : Int32) = (8 : Int32) from by decide]
        exact WP.retI d4_76 rfl (by decide) (by decide) ⟨rfl, _, rfl, by decide, by decide, by unfold PN; exact Or.inr ⟨by decide, by omega⟩⟩
      refine WP.iinc d4_34 (pc' := 37) rfl rfl (y := (8 : Int32)) (by decide) (ls' := #[.val (.ref a), .val (.int k), .val (.int (8 : Int32))]) rfl ?_
      refine WP.iloadN d4_37 rfl (pc' := 38) rfl ?_
      refine WP.aloadN d4_38 rfl rfl (pc' := 39) rfl ?_
      refine WP.iloadN d4_39 rfl (pc' := 40) rfl ?_
      refine WP.iconst d4_40 (z := (4 : Int32)) rfl (pc' := 41) rfl ?_
      refine WP.iadd d4_41 (pc' := 42) rfl ?_
      rw [show (((8 : Int32) + (4 : Int32)) : Int32) = (12 : Int32) from by decide]
      refine WP.iaload 12 d4_42 A_a (x := (880 : Int32)) rfl rfl (pc' := 43) rfl ?_
      refine WP.icmpLt d4_43 (tgt := 49) (by decide) (pc' := 46) rfl (fun c43 => ?_) (fun c43 => ?_)
      ·
        refine WP.iloadN d4_49 rfl (pc' := 50) rfl ?_
        refine WP.aloadN d4_50 rfl rfl (pc' := 51) rfl ?_
        refine WP.iloadN d4_51 rfl (pc' := 52) rfl ?_
        refine WP.iconst d4_52 (z := (2 : Int32)) rfl (pc' := 53) rfl ?_
        refine WP.iadd d4_53 (pc' := 54) rfl ?_
        rw [show (((8 : Int32) + (2 : Int32)) : Int32) = (10 : Int32) from by decide]
        refine WP.iaload 10 d4_54 A_a (x := (248 : Int32)) rfl rfl (pc' := 55) rfl ?_
        refine WP.icmpLt d4_55 (tgt := 61) (by decide) (pc' := 58) rfl (fun c55 => ?_) (fun c55 => ?_)
        ·
          refine WP.iloadN d4_61 rfl (pc' := 62) rfl ?_
          refine WP.aloadN d4_62 rfl rfl (pc' := 63) rfl ?_
          refine WP.iloadN d4_63 rfl (pc' := 64) rfl ?_
          refine WP.iconst d4_64 (z := (1 : Int32)) rfl (pc' := 65) rfl ?_
          refine WP.iadd d4_65 (pc' := 66) rfl ?_
          rw [show (((8 : Int32) + (1 : Int32)) : Int32) = (9 : Int32) from by decide]
          refine WP.iaload 9 d4_66 A_a (x := (247 : Int32)) rfl rfl (pc' := 67) rfl ?_
          refine WP.icmpLt d4_67 (tgt := 73) (by decide) (pc' := 70) rfl (fun c67 => ?_) (fun c67 => ?_)
          ·
            refine WP.iloadN d4_73 rfl (pc' := 74) rfl ?_
            refine WP.iconst d4_74 (z := (1 : Int32)) rfl (pc' := 75) rfl ?_
            refine WP.iadd d4_75 (pc' := 76) rfl ?_
            rw [show (((8 : Int32) + (1 : Int32)) : Int32) = (9 : Int32) from by decide]
            exact WP.retI d4_76 rfl (by decide) (by decide) ⟨rfl, _, rfl, by decide, by decide, by unfold PN; exact Or.inl ⟨by decide, by omega⟩⟩
          refine WP.iinc d4_70 (pc' := 73) rfl rfl (y := (9 : Int32)) (by decide) (ls' := #[.val (.ref a), .val (.int k), .val (.int (9 : Int32))]) rfl ?_
          refine WP.iloadN d4_73 rfl (pc' := 74) rfl ?_
          refine WP.iconst d4_74 (z := (1 : Int32)) rfl (pc' := 75) rfl ?_
          refine WP.iadd d4_75 (pc' := 76) rfl ?_
          rw [show (((9 : Int32) + (1 : Int32)) : Int32) = (10 : Int32) from by decide]
          exact WP.retI d4_76 rfl (by decide) (by decide) ⟨rfl, _, rfl, by decide, by decide, by unfold PN; exact Or.inr ⟨by decide, by omega⟩⟩
        refine WP.iinc d4_58 (pc' := 61) rfl rfl (y := (10 : Int32)) (by decide) (ls' := #[.val (.ref a), .val (.int k), .val (.int (10 : Int32))]) rfl ?_
        refine WP.iloadN d4_61 rfl (pc' := 62) rfl ?_
        refine WP.aloadN d4_62 rfl rfl (pc' := 63) rfl ?_
        refine WP.iloadN d4_63 rfl (pc' := 64) rfl ?_
        refine WP.iconst d4_64 (z := (1 : Int32)) rfl (pc' := 65) rfl ?_
        refine WP.iadd d4_65 (pc' := 66) rfl ?_
        rw [show (((10 : Int32) + (1 : Int32)) : Int32) = (11 : Int32) from by decide]
        refine WP.iaload 11 d4_66 A_a (x := (768 : Int32)) rfl rfl (pc' := 67) rfl ?_
        refine WP.icmpLt d4_67 (tgt := 73) (by decide) (pc' := 70) rfl (fun c67 => ?_) (fun c67 => ?_)
        ·
          refine WP.iloadN d4_73 rfl (pc' := 74) rfl ?_
          refine WP.iconst d4_74 (z := (1 : Int32)) rfl (pc' := 75) rfl ?_
          refine WP.iadd d4_75 (pc' := 76) rfl ?_
          rw [show (((10 : Int32) + (1 : Int32)) : Int32) = (11 : Int32) from by decide]
          exact WP.retI d4_76 rfl (by decide) (by decide) ⟨rfl, _, rfl, by decide, by decide, by unfold PN; exact Or.inl ⟨by decide, by omega⟩⟩
        refine WP.iinc d4_70 (pc' := 73) rfl rfl (y := (11 : Int32)) (by decide) (ls' := #[.val (.ref a), .val (.int k), .val (.int (11 : Int32))]) rfl ?_
        refine WP.iloadN d4_73 rfl (pc' := 74) rfl ?_
        refine WP.iconst d4_74 (z := (1 : Int32)) rfl (pc' := 75) rfl ?_
        refine WP.iadd d4_75 (pc' := 76) rfl ?_
        rw [show (((11 : Int32) + (1 : Int32)) : Int32) = (12 : Int32) from by decide]
        exact WP.retI d4_76 rfl (by decide) (by decide) ⟨rfl, _, rfl, by decide, by decide, by unfold PN; exact Or.inr ⟨by decide, by omega⟩⟩
      refine WP.iinc d4_46 (pc' := 49) rfl rfl (y := (12 : Int32)) (by decide) (ls' := #[.val (.ref a), .val (.int k), .val (.int (12 : Int32))]) rfl ?_
      refine WP.iloadN d4_49 rfl (pc' := 50) rfl ?_
      refine WP.aloadN d4_50 rfl rfl (pc' := 51) rfl ?_
      refine WP.iloadN d4_51 rfl (pc' := 52) rfl ?_
      refine WP.iconst d4_52 (z := (2 : Int32)) rfl (pc' := 53) rfl ?_
      refine WP.iadd d4_53 (pc' := 54) rfl ?_
      rw [show (((12 : Int32) + (2 : Int32)) : Int32) = (14 : Int32) from by decide]
      refine WP.iaload 14 d4_54 A_a (x := (895 : Int32)) rfl rfl (pc' := 55) rfl ?_
      refine WP.icmpLt d4_55 (tgt := 61) (by decide) (pc' := 58) rfl (fun c55 => ?_) (fun c55 => ?_)
      ·
        refine WP.iloadN d4_61 rfl (pc' := 62) rfl ?_
        refine WP.aloadN d4_62 rfl rfl (pc' := 63) rfl ?_
        refine WP.iloadN d4_63 rfl (pc' := 64) rfl ?_
        refine WP.iconst d4_64 (z := (1 : Int32)) rfl (pc' := 65) rfl ?_
        refine WP.iadd d4_65 (pc' := 66) rfl ?_
        rw [show (((12 : Int32) + (1 : Int32)) : Int32) = (13 : Int32) from by decide]
        refine WP.iaload 13 d4_66 A_a (x := (894 : Int32)) rfl rfl (pc' := 67) rfl ?_
        refine WP.icmpLt d4_67 (tgt := 73) (by decide) (pc' := 70) rfl (fun c67 => ?_) (fun c67 => ?_)
        ·
          refine WP.iloadN d4_73 rfl (pc' := 74) rfl ?_
          refine WP.iconst d4_74 (z := (1 : Int32)) rfl (pc' := 75) rfl ?_
          refine WP.iadd d4_75 (pc' := 76) rfl ?_
          rw [show (((12 : Int32) + (1 : Int32)) : Int32) = (13 : Int32) from by decide]
          exact WP.retI d4_76 rfl (by decide) (by decide) ⟨rfl, _, rfl, by decide, by decide, by unfold PN; exact Or.inl ⟨by decide, by omega⟩⟩
        refine WP.iinc d4_70 (pc' := 73) rfl rfl (y := (13 : Int32)) (by decide) (ls' := #[.val (.ref a), .val (.int k), .val (.int (13 : Int32))]) rfl ?_
        refine WP.iloadN d4_73 rfl (pc' := 74) rfl ?_
        refine WP.iconst d4_74 (z := (1 : Int32)) rfl (pc' := 75) rfl ?_
        refine WP.iadd d4_75 (pc' := 76) rfl ?_
        rw [show (((13 : Int32) + (1 : Int32)) : Int32) = (14 : Int32) from by decide]
        exact WP.retI d4_76 rfl (by decide) (by decide) ⟨rfl, _, rfl, by decide, by decide, by unfold PN; exact Or.inr ⟨by decide, by omega⟩⟩
      refine WP.iinc d4_58 (pc' := 61) rfl rfl (y := (14 : Int32)) (by decide) (ls' := #[.val (.ref a), .val (.int k), .val (.int (14 : Int32))]) rfl ?_
      refine WP.iloadN d4_61 rfl (pc' := 62) rfl ?_
      refine WP.aloadN d4_62 rfl rfl (pc' := 63) rfl ?_
      refine WP.iloadN d4_63 rfl (pc' := 64) rfl ?_
      refine WP.iconst d4_64 (z := (1 : Int32)) rfl (pc' := 65) rfl ?_
      refine WP.iadd d4_65 (pc' := 66) rfl ?_
      rw [show (((14 : Int32) + (1 : Int32)) : Int32) = (15 : Int32) from by decide]
      refine WP.iaload 15 d4_66 A_a (x := (8192 : Int32)) rfl rfl (pc' := 67) rfl ?_
      refine WP.icmpLt d4_67 (tgt := 73) (by decide) (pc' := 70) rfl (fun c67 => ?_) (fun c67 => ?_)
      ·
        refine WP.iloadN d4_73 rfl (pc' := 74) rfl ?_
        refine WP.iconst d4_74 (z := (1 : Int32)) rfl (pc' := 75) rfl ?_
        refine WP.iadd d4_75 (pc' := 76) rfl ?_
        rw [show (((14 : Int32) + (1 : Int32)) : Int32) = (15 : Int32) from by decide]
        exact WP.retI d4_76 rfl (by decide) (by decide) ⟨rfl, _, rfl, by decide, by decide, by unfold PN; exact Or.inl ⟨by decide, by omega⟩⟩
      refine WP.iinc d4_70 (pc' := 73) rfl rfl (y := (15 : Int32)) (by decide) (ls' := #[.val (.ref a), .val (.int k), .val (.int (15 : Int32))]) rfl ?_
      refine WP.iloadN d4_73 rfl (pc' := 74) rfl ?_
      refine WP.iconst d4_74 (z := (1 : Int32)) rfl (pc' := 75) rfl ?_
      refine WP.iadd d4_75 (pc' := 76) rfl ?_
      rw [show (((15 : Int32) + (1 : Int32)) : Int32) = (16 : Int32) from by decide]
      exact WP.retI d4_76 rfl (by decide) (by decide) ⟨rfl, _, rfl, by decide, by decide, by unfold PN; exact Or.inr ⟨by decide, by omega⟩⟩
    refine WP.iinc d4_21 (pc' := 24) rfl rfl (y := (16 : Int32)) (by decide) (ls' := #[.val (.ref a), .val (.int k), .val (.int (16 : Int32))]) rfl ?_
    refine WP.iloadN d4_24 rfl (pc' := 25) rfl ?_
    refine WP.aloadN d4_25 rfl rfl (pc' := 26) rfl ?_
    refine WP.iloadN d4_26 rfl (pc' := 27) rfl ?_
    refine WP.bipush d4_27 (z := (8 : Int32)) rfl (pc' := 29) rfl ?_
    refine WP.iadd d4_29 (pc' := 30) rfl ?_
    rw [show (((16 : Int32) + (8 : Int32)) : Int32) = (24 : Int32) from by decide]
    refine WP.iaload 24 d4_30 A_a (x := (63744 : Int32)) rfl rfl (pc' := 31) rfl ?_
    refine WP.icmpLt d4_31 (tgt := 37) (by decide) (pc' := 34) rfl (fun c31 => ?_) (fun c31 => ?_)
    ·
      refine WP.iloadN d4_37 rfl (pc' := 38) rfl ?_
      refine WP.aloadN d4_38 rfl rfl (pc' := 39) rfl ?_
      refine WP.iloadN d4_39 rfl (pc' := 40) rfl ?_
      refine WP.iconst d4_40 (z := (4 : Int32)) rfl (pc' := 41) rfl ?_
      refine WP.iadd d4_41 (pc' := 42) rfl ?_
      rw [show (((16 : Int32) + (4 : Int32)) : Int32) = (20 : Int32) from by decide]
      refine WP.iaload 20 d4_42 A_a (x := (11264 : Int32)) rfl rfl (pc' := 43) rfl ?_
      refine WP.icmpLt d4_43 (tgt := 49) (by decide) (pc' := 46) rfl (fun c43 => ?_) (fun c43 => ?_)
      ·
        refine WP.iloadN d4_49 rfl (pc' := 50) rfl ?_
        refine WP.aloadN d4_50 rfl rfl (pc' := 51) rfl ?_
        refine WP.iloadN d4_51 rfl (pc' := 52) rfl ?_
        refine WP.iconst d4_52 (z := (2 : Int32)) rfl (pc' := 53) rfl ?_
        refine WP.iadd d4_53 (pc' := 54) rfl ?_
        rw [show (((16 : Int32) + (2 : Int32)) : Int32) = (18 : Int32) from by decide]
        refine WP.iaload 18 d4_54 A_a (x := (8304 : Int32)) rfl rfl (pc' := 55) rfl ?_
        refine WP.icmpLt d4_55 (tgt := 61) (by decide) (pc' := 58) rfl (fun c55 => ?_) (fun c55 => ?_)
        ·
          refine WP.iloadN d4_61 rfl (pc' := 62) rfl ?_
          refine WP.aloadN d4_62 rfl rfl (pc' := 63) rfl ?_
          refine WP.iloadN d4_63 rfl (pc' := 64) rfl ?_
          refine WP.iconst d4_64 (z := (1 : Int32)) rfl (pc' := 65) rfl ?_
          refine WP.iadd d4_65 (pc' := 66) rfl ?_
          rw [show (((16 : Int32) + (1 : Int32)) : Int32) = (17 : Int32) from by decide]
          refine WP.iaload 17 d4_66 A_a (x := (8206 : Int32)) rfl rfl (pc' := 67) rfl ?_
          refine WP.icmpLt d4_67 (tgt := 73) (by decide) (pc' := 70) rfl (fun c67 => ?_) (fun c67 => ?_)
          ·
            refine WP.iloadN d4_73 rfl (pc' := 74) rfl ?_
            refine WP.iconst d4_74 (z := (1 : Int32)) rfl (pc' := 75) rfl ?_
            refine WP.iadd d4_75 (pc' := 76) rfl ?_
            rw [show (((16 : Int32) + (1 : Int32)) : Int32) = (17 : Int32) from by decide]
            exact WP.retI d4_76 rfl (by decide) (by decide) ⟨rfl, _, rfl, by decide, by decide, by unfold PN; exact Or.inl ⟨by decide, by omega⟩⟩
          refine WP.iinc d4_70 (pc' := 73) rfl rfl (y := (17 : Int32)) (by decide) (ls' := #[.val (.ref a), .val (.int k), .val (.int (17 : Int32))]) rfl ?_
          refine WP.iloadN d4_73 rfl (pc' := 74) rfl ?_
          refine WP.iconst d4_74 (z := (1 : Int32)) rfl (pc' := 75) rfl ?_
          refine WP.iadd d4_75 (pc' := 76) rfl ?_
          rw [show (((17 : Int32) + (1 : Int32)) : Int32) = (18 : Int32) from by decide]
          exact WP.retI d4_76 rfl (by decide) (by decide) ⟨rfl, _, rfl, by decide, by decide, by unfold PN; exact Or.inr ⟨by decide, by omega⟩⟩
        refine WP.iinc d4_58 (pc' := 61) rfl rfl (y := (18 : Int32)) (by decide) (ls' := #[.val (.ref a), .val (.int k), .val (.int (18 : Int32))]) rfl ?_
        refine WP.iloadN d4_61 rfl (pc' := 62) rfl ?_
        refine WP.aloadN d4_62 rfl rfl (pc' := 63) rfl ?_
        refine WP.iloadN d4_63 rfl (pc' := 64) rfl ?_
        refine WP.iconst d4_64 (z := (1 : Int32)) rfl (pc' := 65) rfl ?_
        refine WP.iadd d4_65 (pc' := 66) rfl ?_
        rw [show (((18 : Int32) + (1 : Int32)) : Int32) = (19 : Int32) from by decide]
        refine WP.iaload 19 d4_66 A_a (x := (8592 : Int32)) rfl rfl (pc' := 67) rfl ?_
        refine WP.icmpLt d4_67 (tgt := 73) (by decide) (pc' := 70) rfl (fun c67 => ?_) (fun c67 => ?_)
        ·
          refine WP.iloadN d4_73 rfl (pc' := 74) rfl ?_
          refine WP.iconst d4_74 (z := (1 : Int32)) rfl (pc' := 75) rfl ?_
          refine WP.iadd d4_75 (pc' := 76) rfl ?_
          rw [show (((18 : Int32) + (1 : Int32)) : Int32) = (19 : Int32) from by decide]
          exact WP.retI d4_76 rfl (by decide) (by decide) ⟨rfl, _, rfl, by decide, by decide, by unfold PN; exact Or.inl ⟨by decide, by omega⟩⟩
        refine WP.iinc d4_70 (pc' := 73) rfl rfl (y := (19 : Int32)) (by decide) (ls' := #[.val (.ref a), .val (.int k), .val (.int (19 : Int32))]) rfl ?_
        refine WP.iloadN d4_73 rfl (pc' := 74) rfl ?_
        refine WP.iconst d4_74 (z := (1 : Int32)) rfl (pc' := 75) rfl ?_
        refine WP.iadd d4_75 (pc' := 76) rfl ?_
        rw [show (((19 : Int32) + (1 : Int32)) : Int32) = (20 : Int32) from by decide]
        exact WP.retI d4_76 rfl (by decide) (by decide) ⟨rfl, _, rfl, by decide, by decide, by unfold PN; exact Or.inr ⟨by decide, by omega⟩⟩
      refine WP.iinc d4_46 (pc' := 49) rfl rfl (y := (20 : Int32)) (by decide) (ls' := #[.val (.ref a), .val (.int k), .val (.int (20 : Int32))]) rfl ?_
      refine WP.iloadN d4_49 rfl (pc' := 50) rfl ?_
      refine WP.aloadN d4_50 rfl rfl (pc' := 51) rfl ?_
      refine WP.iloadN d4_51 rfl (pc' := 52) rfl ?_
      refine WP.iconst d4_52 (z := (2 : Int32)) rfl (pc' := 53) rfl ?_
      refine WP.iadd d4_53 (pc' := 54) rfl ?_
      rw [show (((20 : Int32) + (2 : Int32)) : Int32) = (22 : Int32) from by decide]
      refine WP.iaload 22 d4_54 A_a (x := (12289 : Int32)) rfl rfl (pc' := 55) rfl ?_
      refine WP.icmpLt d4_55 (tgt := 61) (by decide) (pc' := 58) rfl (fun c55 => ?_) (fun c55 => ?_)
      ·
        refine WP.iloadN d4_61 rfl (pc' := 62) rfl ?_
        refine WP.aloadN d4_62 rfl rfl (pc' := 63) rfl ?_
        refine WP.iloadN d4_63 rfl (pc' := 64) rfl ?_
        refine WP.iconst d4_64 (z := (1 : Int32)) rfl (pc' := 65) rfl ?_
        refine WP.iadd d4_65 (pc' := 66) rfl ?_
        rw [show (((20 : Int32) + (1 : Int32)) : Int32) = (21 : Int32) from by decide]
        refine WP.iaload 21 d4_66 A_a (x := (12272 : Int32)) rfl rfl (pc' := 67) rfl ?_
        refine WP.icmpLt d4_67 (tgt := 73) (by decide) (pc' := 70) rfl (fun c67 => ?_) (fun c67 => ?_)
        ·
          refine WP.iloadN d4_73 rfl (pc' := 74) rfl ?_
          refine WP.iconst d4_74 (z := (1 : Int32)) rfl (pc' := 75) rfl ?_
          refine WP.iadd d4_75 (pc' := 76) rfl ?_
          rw [show (((20 : Int32) + (1 : Int32)) : Int32) = (21 : Int32) from by decide]
          exact WP.retI d4_76 rfl (by decide) (by decide) ⟨rfl, _, rfl, by decide, by decide, by unfold PN; exact Or.inl ⟨by decide, by omega⟩⟩
        refine WP.iinc d4_70 (pc' := 73) rfl rfl (y := (21 : Int32)) (by decide) (ls' := #[.val (.ref a), .val (.int k), .val (.int (21 : Int32))]) rfl ?_
        refine WP.iloadN d4_73 rfl (pc' := 74) rfl ?_
        refine WP.iconst d4_74 (z := (1 : Int32)) rfl (pc' := 75) rfl ?_
        refine WP.iadd d4_75 (pc' := 76) rfl ?_
        rw [show (((21 : Int32) + (1 : Int32)) : Int32) = (22 : Int32) from by decide]
        exact WP.retI d4_76 rfl (by decide) (by decide) ⟨rfl, _, rfl, by decide, by decide, by unfold PN; exact Or.inr ⟨by decide, by omega⟩⟩
      refine WP.iinc d4_58 (pc' := 61) rfl rfl (y := (22 : Int32)) (by decide) (ls' := #[.val (.ref a), .val (.int k), .val (.int (22 : Int32))]) rfl ?_
      refine WP.iloadN d4_61 rfl (pc' := 62) rfl ?_
      refine WP.aloadN d4_62 rfl rfl (pc' := 63) rfl ?_
      refine WP.iloadN d4_63 rfl (pc' := 64) rfl ?_
      refine WP.iconst d4_64 (z := (1 : Int32)) rfl (pc' := 65) rfl ?_
      refine WP.iadd d4_65 (pc' := 66) rfl ?_
      rw [show (((22 : Int32) + (1 : Int32)) : Int32) = (23 : Int32) from by decide]
      refine WP.iaload 23 d4_66 A_a (x := (55296 : Int32)) rfl rfl (pc' := 67) rfl ?_
      refine WP.icmpLt d4_67 (tgt := 73) (by decide) (pc' := 70) rfl (fun c67 => ?_) (fun c67 => ?_)
      ·
        refine WP.iloadN d4_73 rfl (pc' := 74) rfl ?_
        refine WP.iconst d4_74 (z := (1 : Int32)) rfl (pc' := 75) rfl ?_
        refine WP.iadd d4_75 (pc' := 76) rfl ?_
        rw [show (((22 : Int32) + (1 : Int32)) : Int32) = (23 : Int32) from by decide]
        exact WP.retI d4_76 rfl (by decide) (by decide) ⟨rfl, _, rfl, by decide, by decide, by unfold PN; exact Or.inl ⟨by decide, by omega⟩⟩
      refine WP.iinc d4_70 (pc' := 73) rfl rfl (y := (23 : Int32)) (by decide) (ls' := #[.val (.ref a), .val (.int k), .val (.int (23 : Int32))]) rfl ?_
      refine WP.iloadN d4_73 rfl (pc' := 74) rfl ?_
      refine WP.iconst d4_74 (z := (1 : Int32)) rfl (pc' := 75) rfl ?_
      refine WP.iadd d4_75 (pc' := 76) rfl ?_
      rw [show (((23 : Int32) + (1 : Int32)) : Int32) = (24 : Int32) from by decide]
      exact WP.retI d4_76 rfl (by decide) (by decide) ⟨rfl, _, rfl, by decide, by decide, by unfold PN; exact Or.inr ⟨by decide, by omega⟩⟩
    refine WP.iinc d4_34 (pc' := 37) rfl rfl (y := (24 : Int32)) (by decide) (ls' := #[.val (.ref a), .val (.int k), .val (.int (24 : Int32))]) rfl ?_
    refine WP.iloadN d4_37 rfl (pc' := 38) rfl ?_
    refine WP.aloadN d4_38 rfl rfl (pc' := 39) rfl ?_
    refine WP.iloadN d4_39 rfl (pc' := 40) rfl ?_
    refine WP.iconst d4_40 (z := (4 : Int32)) rfl (pc' := 41) rfl ?_
    refine WP.iadd d4_41 (pc' := 42) rfl ?_
    rw [show (((24 : Int32) + (4 : Int32)) : Int32) = (28 : Int32) from by decide]
    refine WP.iaload 28 d4_42 A_a (x := (65536 : Int32)) rfl rfl (pc' := 43) rfl ?_
    refine WP.icmpLt d4_43 (tgt := 49) (by decide) (pc' := 46) rfl (fun c43 => ?_) (fun c43 => ?_)
    ·
      refine WP.iloadN d4_49 rfl (pc' := 50) rfl ?_
      refine WP.aloadN d4_50 rfl rfl (pc' := 51) rfl ?_
      refine WP.iloadN d4_51 rfl (pc' := 52) rfl ?_
      refine WP.iconst d4_52 (z := (2 : Int32)) rfl (pc' := 53) rfl ?_
      refine WP.iadd d4_53 (pc' := 54) rfl ?_
      rw [show (((24 : Int32) + (2 : Int32)) : Int32) = (26 : Int32) from by decide]
      refine WP.iaload 26 d4_54 A_a (x := (65008 : Int32)) rfl rfl (pc' := 55) rfl ?_
      refine WP.icmpLt d4_55 (tgt := 61) (by decide) (pc' := 58) rfl (fun c55 => ?_) (fun c55 => ?_)
      ·
        refine WP.iloadN d4_61 rfl (pc' := 62) rfl ?_
        refine WP.aloadN d4_62 rfl rfl (pc' := 63) rfl ?_
        refine WP.iloadN d4_63 rfl (pc' := 64) rfl ?_
        refine WP.iconst d4_64 (z := (1 : Int32)) rfl (pc' := 65) rfl ?_
        refine WP.iadd d4_65 (pc' := 66) rfl ?_
        rw [show (((24 : Int32) + (1 : Int32)) : Int32) = (25 : Int32) from by decide]
        refine WP.iaload 25 d4_66 A_a (x := (64976 : Int32)) rfl rfl (pc' := 67) rfl ?_
        refine WP.icmpLt d4_67 (tgt := 73) (by decide) (pc' := 70) rfl (fun c67 => ?_) (fun c67 => ?_)
        ·
          refine WP.iloadN d4_73 rfl (pc' := 74) rfl ?_
          refine WP.iconst d4_74 (z := (1 : Int32)) rfl (pc' := 75) rfl ?_
          refine WP.iadd d4_75 (pc' := 76) rfl ?_
          rw [show (((24 : Int32) + (1 : Int32)) : Int32) = (25 : Int32) from by decide]
          exact WP.retI d4_76 rfl (by decide) (by decide) ⟨rfl, _, rfl, by decide, by decide, by unfold PN; exact Or.inl ⟨by decide, by omega⟩⟩
        refine WP.iinc d4_70 (pc' := 73) rfl rfl (y := (25 : Int32)) (by decide) (ls' := #[.val (.ref a), .val (.int k), .val (.int (25 : Int32))]) rfl ?_
        refine WP.iloadN d4_73 rfl (pc' := 74) rfl ?_
        refine WP.iconst d4_74 (z := (1 : Int32)) rfl (pc' := 75) rfl ?_
        refine WP.iadd d4_75 (pc' := 76) rfl ?_
        rw [show (((25 : Int32) + (1 : Int32)) : Int32) = (26 : Int32) from by decide]
        exact WP.retI d4_76 rfl (by decide) (by decide) ⟨rfl, _, rfl, by decide, by decide, by unfold PN; exact Or.inr ⟨by decide, by omega⟩⟩
      refine WP.iinc d4_58 (pc' := 61) rfl rfl (y := (26 : Int32)) (by decide) (ls' := #[.val (.ref a), .val (.int k), .val (.int (26 : Int32))]) rfl ?_
      refine WP.iloadN d4_61 rfl (pc' := 62) rfl ?_
      refine WP.aloadN d4_62 rfl rfl (pc' := 63) rfl ?_
      refine WP.iloadN d4_63 rfl (pc' := 64) rfl ?_
      refine WP.iconst d4_64 (z := (1 : Int32)) rfl (pc' := 65) rfl ?_
      refine WP.iadd d4_65 (pc' := 66) rfl ?_
      rw [show (((26 : Int32) + (1 : Int32)) : Int32) = (27 : Int32) from by decide]
      refine WP.iaload 27 d4_66 A_a (x := (65534 : Int32)) rfl rfl (pc' := 67) rfl ?_
      refine WP.icmpLt d4_67 (tgt := 73) (by decide) (pc' := 70) rfl (fun c67 => ?_) (fun c67 => ?_)
      ·
        refine WP.iloadN d4_73 rfl (pc' := 74) rfl ?_
        refine WP.iconst d4_74 (z := (1 : Int32)) rfl (pc' := 75) rfl ?_
        refine WP.iadd d4_75 (pc' := 76) rfl ?_
        rw [show (((26 : Int32) + (1 : Int32)) : Int32) = (27 : Int32) from by decide]
        exact WP.retI d4_76 rfl (by decide) (by decide) ⟨rfl, _, rfl, by decide, by decide, by unfold PN; exact Or.inl ⟨by decide, by omega⟩⟩
      refine WP.iinc d4_70 (pc' := 73) rfl rfl (y := (27 : Int32)) (by decide) (ls' := #[.val (.ref a), .val (.int k), .val (.int (27 : Int32))]) rfl ?_
      refine WP.iloadN d4_73 rfl (pc' := 74) rfl ?_
      refine WP.iconst d4_74 (z := (1 : Int32)) rfl (pc' := 75) rfl ?_
      refine WP.iadd d4_75 (pc' := 76) rfl ?_
      rw [show (((27 : Int32) + (1 : Int32)) : Int32) = (28 : Int32) from by decide]
      exact WP.retI d4_76 rfl (by decide) (by decide) ⟨rfl, _, rfl, by decide, by decide, by unfold PN; exact Or.inr ⟨by decide, by omega⟩⟩
    refine WP.iinc d4_46 (pc' := 49) rfl rfl (y := (28 : Int32)) (by decide) (ls' := #[.val (.ref a), .val (.int k), .val (.int (28 : Int32))]) rfl ?_
    refine WP.iloadN d4_49 rfl (pc' := 50) rfl ?_
    refine WP.aloadN d4_50 rfl rfl (pc' := 51) rfl ?_
    refine WP.iloadN d4_51 rfl (pc' := 52) rfl ?_
    refine WP.iconst d4_52 (z := (2 : Int32)) rfl (pc' := 53) rfl ?_
    refine WP.iadd d4_53 (pc' := 54) rfl ?_
    rw [show (((28 : Int32) + (2 : Int32)) : Int32) = (30 : Int32) from by decide]
    refine WP.iaload 30 d4_54 A_a (x := (2147483647 : Int32)) rfl rfl (pc' := 55) rfl ?_
    refine WP.icmpLt d4_55 (tgt := 61) (by decide) (pc' := 58) rfl (fun c55 => ?_) (fun c55 => ?_)
    ·
      refine WP.iloadN d4_61 rfl (pc' := 62) rfl ?_
      refine WP.aloadN d4_62 rfl rfl (pc' := 63) rfl ?_
      refine WP.iloadN d4_63 rfl (pc' := 64) rfl ?_
      refine WP.iconst d4_64 (z := (1 : Int32)) rfl (pc' := 65) rfl ?_
      refine WP.iadd d4_65 (pc' := 66) rfl ?_
      rw [show (((28 : Int32) + (1 : Int32)) : Int32) = (29 : Int32) from by decide]
      refine WP.iaload 29 d4_66 A_a (x := (983040 : Int32)) rfl rfl (pc' := 67) rfl ?_
      refine WP.icmpLt d4_67 (tgt := 73) (by decide) (pc' := 70) rfl (fun c67 => ?_) (fun c67 => ?_)
      ·
        refine WP.iloadN d4_73 rfl (pc' := 74) rfl ?_
        refine WP.iconst d4_74 (z := (1 : Int32)) rfl (pc' := 75) rfl ?_
        refine WP.iadd d4_75 (pc' := 76) rfl ?_
        rw [show (((28 : Int32) + (1 : Int32)) : Int32) = (29 : Int32) from by decide]
        exact WP.retI d4_76 rfl (by decide) (by decide) ⟨rfl, _, rfl, by decide, by decide, by unfold PN; exact Or.inl ⟨by decide, by omega⟩⟩
      refine WP.iinc d4_70 (pc' := 73) rfl rfl (y := (29 : Int32)) (by decide) (ls' := #[.val (.ref a), .val (.int k), .val (.int (29 : Int32))]) rfl ?_
      refine WP.iloadN d4_73 rfl (pc' := 74) rfl ?_
      refine WP.iconst d4_74 (z := (1 : Int32)) rfl (pc' := 75) rfl ?_
      refine WP.iadd d4_75 (pc' := 76) rfl ?_
      rw [show (((29 : Int32) + (1 : Int32)) : Int32) = (30 : Int32) from by decide]
      exact WP.retI d4_76 rfl (by decide) (by decide) ⟨rfl, _, rfl, by decide, by decide, by unfold PN; exact Or.inr ⟨by decide, by omega⟩⟩
    refine WP.iinc d4_58 (pc' := 61) rfl rfl (y := (30 : Int32)) (by decide) (ls' := #[.val (.ref a), .val (.int k), .val (.int (30 : Int32))]) rfl ?_
    refine WP.iloadN d4_61 rfl (pc' := 62) rfl ?_
    refine WP.aloadN d4_62 rfl rfl (pc' := 63) rfl ?_
    refine WP.iloadN d4_63 rfl (pc' := 64) rfl ?_
    refine WP.iconst d4_64 (z := (1 : Int32)) rfl (pc' := 65) rfl ?_
    refine WP.iadd d4_65 (pc' := 66) rfl ?_
    rw [show (((30 : Int32) + (1 : Int32)) : Int32) = (31 : Int32) from by decide]
    refine WP.iaload 31 d4_66 A_a (x := (2147483647 : Int32)) rfl rfl (pc' := 67) rfl ?_
    refine WP.icmpLt d4_67 (tgt := 73) (by decide) (pc' := 70) rfl (fun c67 => ?_) (fun c67 => ?_)
    · exfalso; omega
    refine WP.iinc d4_70 (pc' := 73) rfl rfl (y := (31 : Int32)) (by decide) (ls' := #[.val (.ref a), .val (.int k), .val (.int (31 : Int32))]) rfl ?_
    refine WP.iloadN d4_73 rfl (pc' := 74) rfl ?_
    refine WP.iconst d4_74 (z := (1 : Int32)) rfl (pc' := 75) rfl ?_
    refine WP.iadd d4_75 (pc' := 76) rfl ?_
    rw [show (((31 : Int32) + (1 : Int32)) : Int32) = (32 : Int32) from by decide]
    exact WP.retI d4_76 rfl (by decide) (by decide) ⟨rfl, _, rfl, by decide, by decide, by unfold PN; exact Or.inr ⟨by decide, by omega⟩⟩
  refine WP.iconst d4_7 (z := (0 : Int32)) rfl (pc' := 8) rfl ?_
  exact WP.retI d4_8 rfl (by decide) (by decide) ⟨rfl, _, rfl, by decide, by decide, by unfold PN; exact Or.inr ⟨by decide, by omega⟩⟩
theorem ref_met {l : Launch} {Z : State} {a0 : Array Value} (hw : HW Z a0) {n0 : Nat} {h : Heap} (a : Addr) (k : Int32) (A_a : Av Z h a .int EV) : OMet l (⟨"com/example/chronoxyl/chronoxyl/history/XmlIsNameStartPinLaw", "reference", "([II)Z"⟩ : MethodName) B3 Z n0 #[(.ref a), (.int k)] h (fun v h' => h = h' ∧ ∃ r : Int32, v = some (.int r) ∧ ((r.toInt = 1 ∧ (PN k.toInt)) ∨ (r.toInt = 0 ∧ ¬ (PN k.toInt)))) := by
  refine OMet.of_wp (ls0 := #[.val (.ref a), .val (.int k)]) pl3 rfl rfl (fun m => by first | rfl | (simp [entryFrame, mkF, argsToLocals, Value.category, B3]; done)) ?_
  have k32_0 : (0 : Int32).toInt = 0 := by decide
  have k32_1 : (1 : Int32).toInt = 1 := by decide
  refine WP.aloadN d3_0 rfl rfl (pc' := 1) rfl ?_
  refine WP.iloadN d3_1 rfl (pc' := 2) rfl ?_
  refine WP.callS (y := (⟨"com/example/chronoxyl/chronoxyl/history/XmlIsNameStartPinLaw", "countAtMost", "([II)I"⟩ : MethodName)) (By := B4) (as := [(.ref a), (.int k)]) (rest := []) d3_2 (w23 hw) (w24 hw) (w2 hw) (w25 hw) (by decide) (cnt_met hw a k A_a) pd_0 rfl rfl rfl (by decide) (Nat.le_of_ble_eq_true rfl) (by decide) (by decide) (pc' := 5) rfl ?_
  rintro _ _ ⟨rfl, n, rfl, hn0, hn1, hn⟩
  have f1 : (n &&& (1 : Int32)).toInt = n.toInt % 2 := own_mask n _ 1 _ (by decide) (by decide) (by decide)
  show WP _ _ _ _ _ _ _ _ _ _ [(.int n)]
  refine WP.iconst d3_5 (z := (1 : Int32)) rfl (pc' := 6) rfl ?_
  refine WP.iand d3_6 (pc' := 7) rfl ?_
  refine WP.iconst d3_7 (z := (1 : Int32)) rfl (pc' := 8) rfl ?_
  refine WP.icmpNe d3_8 (tgt := 15) (by decide) (pc' := 11) rfl (fun c8 => ?_) (fun c8 => ?_)
  ·
    refine WP.iconst d3_15 (z := (0 : Int32)) rfl (pc' := 16) rfl ?_
    exact WP.retN d3_16 (t := .boolean) rfl (by simp) (by decide) (by decide) ⟨rfl, 0, own_q0, Or.inr ⟨by decide, by rcases hn with q | q; exact absurd q.1 (by omega); exact q.2⟩⟩
  refine WP.iconst d3_11 (z := (1 : Int32)) rfl (pc' := 12) rfl ?_
  refine WP.goto d3_12 (pc' := 16) (by decide) ?_
  exact WP.retN d3_16 (t := .boolean) rfl (by simp) (by decide) (by decide) ⟨rfl, 1, own_q1, Or.inl ⟨by decide, by rcases hn with q | q; exact q.2; exact absurd q.1 (by omega)⟩⟩
theorem edge_fact (i : Nat) (hi : i < 30) (y : Int32) (hy : EV[i]? = some (.int y)) : ((i % 2 = 0 ∧ PN y.toInt ∧ ¬ PN (y.toInt - 1)) ∨ (i % 2 = 1 ∧ ¬ PN y.toInt ∧ PN (y.toInt - 1))) ∧ 65 ≤ y.toInt := by
  rcases (by omega : i = 0 ∨ i = 1 ∨ i = 2 ∨ i = 3 ∨ i = 4 ∨ i = 5 ∨ i = 6 ∨ i = 7 ∨ i = 8 ∨ i = 9 ∨ i = 10 ∨ i = 11 ∨ i = 12 ∨ i = 13 ∨ i = 14 ∨ i = 15 ∨ i = 16 ∨ i = 17 ∨ i = 18 ∨ i = 19 ∨ i = 20 ∨ i = 21 ∨ i = 22 ∨ i = 23 ∨ i = 24 ∨ i = 25 ∨ i = 26 ∨ i = 27 ∨ i = 28 ∨ i = 29) with rfl | rfl | rfl | rfl | rfl | rfl | rfl | rfl | rfl | rfl | rfl | rfl | rfl | rfl | rfl | rfl | rfl | rfl | rfl | rfl | rfl | rfl | rfl | rfl | rfl | rfl | rfl | rfl | rfl | rfl
  · obtain rfl : (65 : Int32) = y := Value.int.inj (Option.some.inj hy)
    have e : (65 : Int32).toInt = 65 := by decide
    rw [e]; unfold PN; omega
  · obtain rfl : (91 : Int32) = y := Value.int.inj (Option.some.inj hy)
    have e : (91 : Int32).toInt = 91 := by decide
    rw [e]; unfold PN; omega
  · obtain rfl : (95 : Int32) = y := Value.int.inj (Option.some.inj hy)
    have e : (95 : Int32).toInt = 95 := by decide
    rw [e]; unfold PN; omega
  · obtain rfl : (96 : Int32) = y := Value.int.inj (Option.some.inj hy)
    have e : (96 : Int32).toInt = 96 := by decide
    rw [e]; unfold PN; omega
  · obtain rfl : (97 : Int32) = y := Value.int.inj (Option.some.inj hy)
    have e : (97 : Int32).toInt = 97 := by decide
    rw [e]; unfold PN; omega
  · obtain rfl : (123 : Int32) = y := Value.int.inj (Option.some.inj hy)
    have e : (123 : Int32).toInt = 123 := by decide
    rw [e]; unfold PN; omega
  · obtain rfl : (192 : Int32) = y := Value.int.inj (Option.some.inj hy)
    have e : (192 : Int32).toInt = 192 := by decide
    rw [e]; unfold PN; omega
  · obtain rfl : (215 : Int32) = y := Value.int.inj (Option.some.inj hy)
    have e : (215 : Int32).toInt = 215 := by decide
    rw [e]; unfold PN; omega
  · obtain rfl : (216 : Int32) = y := Value.int.inj (Option.some.inj hy)
    have e : (216 : Int32).toInt = 216 := by decide
    rw [e]; unfold PN; omega
  · obtain rfl : (247 : Int32) = y := Value.int.inj (Option.some.inj hy)
    have e : (247 : Int32).toInt = 247 := by decide
    rw [e]; unfold PN; omega
  · obtain rfl : (248 : Int32) = y := Value.int.inj (Option.some.inj hy)
    have e : (248 : Int32).toInt = 248 := by decide
    rw [e]; unfold PN; omega
  · obtain rfl : (768 : Int32) = y := Value.int.inj (Option.some.inj hy)
    have e : (768 : Int32).toInt = 768 := by decide
    rw [e]; unfold PN; omega
  · obtain rfl : (880 : Int32) = y := Value.int.inj (Option.some.inj hy)
    have e : (880 : Int32).toInt = 880 := by decide
    rw [e]; unfold PN; omega
  · obtain rfl : (894 : Int32) = y := Value.int.inj (Option.some.inj hy)
    have e : (894 : Int32).toInt = 894 := by decide
    rw [e]; unfold PN; omega
  · obtain rfl : (895 : Int32) = y := Value.int.inj (Option.some.inj hy)
    have e : (895 : Int32).toInt = 895 := by decide
    rw [e]; unfold PN; omega
  · obtain rfl : (8192 : Int32) = y := Value.int.inj (Option.some.inj hy)
    have e : (8192 : Int32).toInt = 8192 := by decide
    rw [e]; unfold PN; omega
  · obtain rfl : (8204 : Int32) = y := Value.int.inj (Option.some.inj hy)
    have e : (8204 : Int32).toInt = 8204 := by decide
    rw [e]; unfold PN; omega
  · obtain rfl : (8206 : Int32) = y := Value.int.inj (Option.some.inj hy)
    have e : (8206 : Int32).toInt = 8206 := by decide
    rw [e]; unfold PN; omega
  · obtain rfl : (8304 : Int32) = y := Value.int.inj (Option.some.inj hy)
    have e : (8304 : Int32).toInt = 8304 := by decide
    rw [e]; unfold PN; omega
  · obtain rfl : (8592 : Int32) = y := Value.int.inj (Option.some.inj hy)
    have e : (8592 : Int32).toInt = 8592 := by decide
    rw [e]; unfold PN; omega
  · obtain rfl : (11264 : Int32) = y := Value.int.inj (Option.some.inj hy)
    have e : (11264 : Int32).toInt = 11264 := by decide
    rw [e]; unfold PN; omega
  · obtain rfl : (12272 : Int32) = y := Value.int.inj (Option.some.inj hy)
    have e : (12272 : Int32).toInt = 12272 := by decide
    rw [e]; unfold PN; omega
  · obtain rfl : (12289 : Int32) = y := Value.int.inj (Option.some.inj hy)
    have e : (12289 : Int32).toInt = 12289 := by decide
    rw [e]; unfold PN; omega
  · obtain rfl : (55296 : Int32) = y := Value.int.inj (Option.some.inj hy)
    have e : (55296 : Int32).toInt = 55296 := by decide
    rw [e]; unfold PN; omega
  · obtain rfl : (63744 : Int32) = y := Value.int.inj (Option.some.inj hy)
    have e : (63744 : Int32).toInt = 63744 := by decide
    rw [e]; unfold PN; omega
  · obtain rfl : (64976 : Int32) = y := Value.int.inj (Option.some.inj hy)
    have e : (64976 : Int32).toInt = 64976 := by decide
    rw [e]; unfold PN; omega
  · obtain rfl : (65008 : Int32) = y := Value.int.inj (Option.some.inj hy)
    have e : (65008 : Int32).toInt = 65008 := by decide
    rw [e]; unfold PN; omega
  · obtain rfl : (65534 : Int32) = y := Value.int.inj (Option.some.inj hy)
    have e : (65534 : Int32).toInt = 65534 := by decide
    rw [e]; unfold PN; omega
  · obtain rfl : (65536 : Int32) = y := Value.int.inj (Option.some.inj hy)
    have e : (65536 : Int32).toInt = 65536 := by decide
    rw [e]; unfold PN; omega
  · obtain rfl : (983040 : Int32) = y := Value.int.inj (Option.some.inj hy)
    have e : (983040 : Int32).toInt = 983040 := by decide
    rw [e]; unfold PN; omega
theorem law_met {l : Launch} {Z : State} {a0 : Array Value} (hw : HW Z a0) {n0 : Nat} {h : Heap} (k kk : Int32) : OMet l x B0 Z n0 #[(.int k), (.int kk)] h (fun v h' => v = some (.int 1)) := by
  refine OMet.of_wp (ls0 := #[.val (.int k), .val (.int kk), .unset, .unset, .unset, .unset, .unset, .unset, .unset]) pl0 rfl rfl (fun m => by first | rfl | (simp [entryFrame, mkF, argsToLocals, Value.category, B0]; done)) ?_
  have k32_0 : (0 : Int32).toInt = 0 := by decide
  have k32_1 : (1 : Int32).toInt = 1 := by decide
  have k32_30 : (30 : Int32).toInt = 30 := by decide
  have k32_2147483647 : (2147483647 : Int32).toInt = 2147483647 := by decide
  refine WP.callS (y := (⟨"com/example/chronoxyl/chronoxyl/history/XmlIsNameStartPinLaw", "edges", "()[I"⟩ : MethodName)) (By := B1) (as := []) (rest := []) at_0 (w0 hw) (w1 hw) (w2 hw) (w3 hw) (by decide) (edg_met hw) pd_1 rfl rfl rfl (by decide) (Nat.le_of_ble_eq_true rfl) (by decide) (by decide) (pc' := 3) rfl ?_
  rintro _ h1 ⟨b1, rfl, g_b1, A_b1⟩
  show WP _ _ _ _ _ _ _ _ _ _ [(.ref b1)]
  refine WP.astoreN at_3 (pc' := 4) rfl rfl (ls' := #[.val (.int k), .val (.int kk), .val (.ref b1), .unset, .unset, .unset, .unset, .unset, .unset]) rfl ?_
  refine WP.iloadN at_4 rfl (pc' := 5) rfl ?_
  refine WP.callS (y := (⟨"com/example/chronoxyl/chronoxyl/history/Xml", "isNameStart", "(I)Z"⟩ : MethodName)) (By := B2) (as := [(.int k)]) (rest := []) at_5 (w13 hw) (w14 hw) (w15 hw) (w16 hw) (by decide) (isn_met hw k) pd_2 rfl rfl rfl (by decide) (Nat.le_of_ble_eq_true rfl) (by decide) (by decide) (pc' := 8) rfl ?_
  rintro _ _ ⟨rfl, r1, rfl, hr1⟩
  show WP _ _ _ _ _ _ _ _ _ _ [(.int r1)]
  refine WP.aloadN at_8 rfl rfl (pc' := 9) rfl ?_
  refine WP.iloadN at_9 rfl (pc' := 10) rfl ?_
  refine WP.callS (y := (⟨"com/example/chronoxyl/chronoxyl/history/XmlIsNameStartPinLaw", "reference", "([II)Z"⟩ : MethodName)) (By := B3) (as := [(.ref b1), (.int k)]) (rest := [(.int r1)]) at_10 (w20 hw) (w21 hw) (w2 hw) (w22 hw) (by decide) (ref_met hw b1 k A_b1) pd_3 rfl rfl rfl (by decide) (Nat.le_of_ble_eq_true rfl) (by decide) (by decide) (pc' := 13) rfl ?_
  rintro _ _ ⟨rfl, r2, rfl, hr2⟩
  show WP _ _ _ _ _ _ _ _ _ _ [(.int r2), (.int r1)]
  refine WP.icmpNe at_13 (tgt := 20) (by decide) (pc' := 16) rfl (fun c13 => ?_) (fun c13 => ?_)
  · exfalso; rcases hr1 with ⟨p1, p2⟩ | ⟨p1, p2⟩ <;> rcases hr2 with ⟨q1, q2⟩ | ⟨q1, q2⟩ <;> first | omega | contradiction
  refine WP.iconst at_16 (z := (1 : Int32)) rfl (pc' := 17) rfl ?_
  refine WP.goto at_17 (pc' := 21) (by decide) ?_
  refine WP.istoreN at_21 (pc' := 22) rfl (ls' := #[.val (.int k), .val (.int kk), .val (.ref b1), .val (.int (1 : Int32)), .unset, .unset, .unset, .unset, .unset]) rfl ?_
  refine WP.iloadN at_22 rfl (pc' := 23) rfl ?_
  refine WP.ldcI at_23 (w12 hw) (pc' := 25) rfl ?_
  refine WP.iand at_25 (pc' := 26) rfl ?_
  refine WP.bipush at_26 (z := (30 : Int32)) rfl (pc' := 28) rfl ?_
  refine WP.irem at_28 (by decide) (pc' := 29) rfl ?_
  obtain ⟨v, e_v⟩ : ∃ z, z = ((kk &&& (2147483647 : Int32)) % (30 : Int32)) := ⟨_, rfl⟩
  rw [← e_v]
  refine WP.istore at_29 (pc' := 31) rfl (ls' := #[.val (.int k), .val (.int kk), .val (.ref b1), .val (.int (1 : Int32)), .val (.int v), .unset, .unset, .unset, .unset]) rfl ?_
  refine WP.aloadN at_31 rfl rfl (pc' := 32) rfl ?_
  refine WP.iload at_32 rfl (pc' := 34) rfl ?_
  have f1 : (kk &&& (2147483647 : Int32)).toInt = kk.toInt % 2147483648 := own_mask kk _ 31 _ (by decide) (by decide) (by decide)
  have f2 : v.toInt = (kk &&& (2147483647 : Int32)).toInt % 30 := by rw [e_v]; exact own_irem (by decide) (by omega)
  obtain ⟨i, hi⟩ : ∃ i : Nat, v.toInt = (i : Int) := ⟨v.toInt.toNat, by omega⟩
  obtain ⟨y, hy⟩ : ∃ y : Int32, EV[i]? = some (.int y) := own_getI [65, 91, 95, 96, 97, 123, 192, 215, 216, 247, 248, 768, 880, 894, 895, 8192, 8204, 8206, 8304, 8592, 11264, 12272, 12289, 55296, 63744, 64976, 65008, 65534, 65536, 983040, 2147483647, 2147483647] i (by simp; omega)
  have hF := edge_fact i (by omega) y hy
  have f3 : (v &&& (1 : Int32)).toInt = v.toInt % 2 := own_mask v _ 1 _ (by decide) (by decide) (by decide)
  have f5 := own_r32 y
  have f4 : (y - (1 : Int32)).toInt = y.toInt - 1 := by rw [own_isub] <;> omega
  refine WP.iaload i at_34 A_b1 (x := y) hi hy (pc' := 35) rfl ?_
  refine WP.istore at_35 (pc' := 37) rfl (ls' := #[.val (.int k), .val (.int kk), .val (.ref b1), .val (.int (1 : Int32)), .val (.int v), .val (.int y), .unset, .unset, .unset]) rfl ?_
  refine WP.iload at_37 rfl (pc' := 39) rfl ?_
  refine WP.iconst at_39 (z := (1 : Int32)) rfl (pc' := 40) rfl ?_
  refine WP.iand at_40 (pc' := 41) rfl ?_
  refine WP.ifNe at_41 (tgt := 48) (by decide) (pc' := 44) rfl (fun c41 => ?_) (fun c41 => ?_)
  ·
    refine WP.iconst at_48 (z := (0 : Int32)) rfl (pc' := 49) rfl ?_
    refine WP.istore at_49 (pc' := 51) rfl (ls' := #[.val (.int k), .val (.int kk), .val (.ref b1), .val (.int (1 : Int32)), .val (.int v), .val (.int y), .val (.int (0 : Int32)), .unset, .unset]) rfl ?_
    refine WP.iload at_51 rfl (pc' := 53) rfl ?_
    refine WP.callS (y := (⟨"com/example/chronoxyl/chronoxyl/history/Xml", "isNameStart", "(I)Z"⟩ : MethodName)) (By := B2) (as := [(.int y)]) (rest := []) at_53 (w13 hw) (w14 hw) (w15 hw) (w16 hw) (by decide) (isn_met hw y) pd_2 rfl rfl rfl (by decide) (Nat.le_of_ble_eq_true rfl) (by decide) (by decide) (pc' := 56) rfl ?_
    rintro _ _ ⟨rfl, r3, rfl, hr3⟩
    show WP _ _ _ _ _ _ _ _ _ _ [(.int r3)]
    refine WP.iload at_56 rfl (pc' := 58) rfl ?_
    refine WP.icmpNe at_58 (tgt := 65) (by decide) (pc' := 61) rfl (fun c58 => ?_) (fun c58 => ?_)
    · exfalso; rcases hF.1 with ⟨q1, q2, q3⟩ | ⟨q1, q2, q3⟩ <;> rcases hr3 with ⟨p1, p2⟩ | ⟨p1, p2⟩ <;> first | omega | contradiction
    refine WP.iconst at_61 (z := (1 : Int32)) rfl (pc' := 62) rfl ?_
    refine WP.goto at_62 (pc' := 66) (by decide) ?_
    refine WP.istore at_66 (pc' := 68) rfl (ls' := #[.val (.int k), .val (.int kk), .val (.ref b1), .val (.int (1 : Int32)), .val (.int v), .val (.int y), .val (.int (0 : Int32)), .val (.int (1 : Int32)), .unset]) rfl ?_
    refine WP.iload at_68 rfl (pc' := 70) rfl ?_
    refine WP.iconst at_70 (z := (1 : Int32)) rfl (pc' := 71) rfl ?_
    refine WP.isub at_71 (pc' := 72) rfl ?_
    refine WP.callS (y := (⟨"com/example/chronoxyl/chronoxyl/history/Xml", "isNameStart", "(I)Z"⟩ : MethodName)) (By := B2) (as := [(.int (y - (1 : Int32)))]) (rest := []) at_72 (w13 hw) (w14 hw) (w15 hw) (w16 hw) (by decide) (isn_met hw (y - (1 : Int32))) pd_2 rfl rfl rfl (by decide) (Nat.le_of_ble_eq_true rfl) (by decide) (by decide) (pc' := 75) rfl ?_
    rintro _ _ ⟨rfl, r4, rfl, hr4⟩
    rw [f4] at hr4
    show WP _ _ _ _ _ _ _ _ _ _ [(.int r4)]
    refine WP.iload at_75 rfl (pc' := 77) rfl ?_
    refine WP.ifNe at_77 (tgt := 84) (by decide) (pc' := 80) rfl (fun c77 => ?_) (fun c77 => ?_)
    · exfalso; omega
    refine WP.iconst at_80 (z := (1 : Int32)) rfl (pc' := 81) rfl ?_
    refine WP.goto at_81 (pc' := 85) (by decide) ?_
    refine WP.icmpNe at_85 (tgt := 92) (by decide) (pc' := 88) rfl (fun c85 => ?_) (fun c85 => ?_)
    · exfalso; rcases hF.1 with ⟨q1, q2, q3⟩ | ⟨q1, q2, q3⟩ <;> rcases hr4 with ⟨p1, p2⟩ | ⟨p1, p2⟩ <;> first | omega | contradiction
    refine WP.iconst at_88 (z := (1 : Int32)) rfl (pc' := 89) rfl ?_
    refine WP.goto at_89 (pc' := 93) (by decide) ?_
    refine WP.istore at_93 (pc' := 95) rfl (ls' := #[.val (.int k), .val (.int kk), .val (.ref b1), .val (.int (1 : Int32)), .val (.int v), .val (.int y), .val (.int (0 : Int32)), .val (.int (1 : Int32)), .val (.int (1 : Int32))]) rfl ?_
    refine WP.iloadN at_95 rfl (pc' := 96) rfl ?_
    refine WP.ifEq at_96 (tgt := 113) (by decide) (pc' := 99) rfl (fun c96 => ?_) (fun c96 => ?_)
    · exfalso; omega
    refine WP.iload at_99 rfl (pc' := 101) rfl ?_
    refine WP.ifEq at_101 (tgt := 113) (by decide) (pc' := 104) rfl (fun c101 => ?_) (fun c101 => ?_)
    · exfalso; omega
    refine WP.iload at_104 rfl (pc' := 106) rfl ?_
    refine WP.ifEq at_106 (tgt := 113) (by decide) (pc' := 109) rfl (fun c106 => ?_) (fun c106 => ?_)
    · exfalso; omega
    refine WP.iconst at_109 (z := (1 : Int32)) rfl (pc' := 110) rfl ?_
    refine WP.goto at_110 (pc' := 114) (by decide) ?_
    exact WP.retN at_114 (t := .boolean) rfl (by simp) (by decide) (by decide) own_q1
  refine WP.iconst at_44 (z := (1 : Int32)) rfl (pc' := 45) rfl ?_
  refine WP.goto at_45 (pc' := 49) (by decide) ?_
  refine WP.istore at_49 (pc' := 51) rfl (ls' := #[.val (.int k), .val (.int kk), .val (.ref b1), .val (.int (1 : Int32)), .val (.int v), .val (.int y), .val (.int (1 : Int32)), .unset, .unset]) rfl ?_
  refine WP.iload at_51 rfl (pc' := 53) rfl ?_
  refine WP.callS (y := (⟨"com/example/chronoxyl/chronoxyl/history/Xml", "isNameStart", "(I)Z"⟩ : MethodName)) (By := B2) (as := [(.int y)]) (rest := []) at_53 (w13 hw) (w14 hw) (w15 hw) (w16 hw) (by decide) (isn_met hw y) pd_2 rfl rfl rfl (by decide) (Nat.le_of_ble_eq_true rfl) (by decide) (by decide) (pc' := 56) rfl ?_
  rintro _ _ ⟨rfl, r3, rfl, hr3⟩
  show WP _ _ _ _ _ _ _ _ _ _ [(.int r3)]
  refine WP.iload at_56 rfl (pc' := 58) rfl ?_
  refine WP.icmpNe at_58 (tgt := 65) (by decide) (pc' := 61) rfl (fun c58 => ?_) (fun c58 => ?_)
  · exfalso; rcases hF.1 with ⟨q1, q2, q3⟩ | ⟨q1, q2, q3⟩ <;> rcases hr3 with ⟨p1, p2⟩ | ⟨p1, p2⟩ <;> first | omega | contradiction
  refine WP.iconst at_61 (z := (1 : Int32)) rfl (pc' := 62) rfl ?_
  refine WP.goto at_62 (pc' := 66) (by decide) ?_
  refine WP.istore at_66 (pc' := 68) rfl (ls' := #[.val (.int k), .val (.int kk), .val (.ref b1), .val (.int (1 : Int32)), .val (.int v), .val (.int y), .val (.int (1 : Int32)), .val (.int (1 : Int32)), .unset]) rfl ?_
  refine WP.iload at_68 rfl (pc' := 70) rfl ?_
  refine WP.iconst at_70 (z := (1 : Int32)) rfl (pc' := 71) rfl ?_
  refine WP.isub at_71 (pc' := 72) rfl ?_
  refine WP.callS (y := (⟨"com/example/chronoxyl/chronoxyl/history/Xml", "isNameStart", "(I)Z"⟩ : MethodName)) (By := B2) (as := [(.int (y - (1 : Int32)))]) (rest := []) at_72 (w13 hw) (w14 hw) (w15 hw) (w16 hw) (by decide) (isn_met hw (y - (1 : Int32))) pd_2 rfl rfl rfl (by decide) (Nat.le_of_ble_eq_true rfl) (by decide) (by decide) (pc' := 75) rfl ?_
  rintro _ _ ⟨rfl, r4, rfl, hr4⟩
  rw [f4] at hr4
  show WP _ _ _ _ _ _ _ _ _ _ [(.int r4)]
  refine WP.iload at_75 rfl (pc' := 77) rfl ?_
  refine WP.ifNe at_77 (tgt := 84) (by decide) (pc' := 80) rfl (fun c77 => ?_) (fun c77 => ?_)
  ·
    refine WP.iconst at_84 (z := (0 : Int32)) rfl (pc' := 85) rfl ?_
    refine WP.icmpNe at_85 (tgt := 92) (by decide) (pc' := 88) rfl (fun c85 => ?_) (fun c85 => ?_)
    · exfalso; rcases hF.1 with ⟨q1, q2, q3⟩ | ⟨q1, q2, q3⟩ <;> rcases hr4 with ⟨p1, p2⟩ | ⟨p1, p2⟩ <;> first | omega | contradiction
    refine WP.iconst at_88 (z := (1 : Int32)) rfl (pc' := 89) rfl ?_
    refine WP.goto at_89 (pc' := 93) (by decide) ?_
    refine WP.istore at_93 (pc' := 95) rfl (ls' := #[.val (.int k), .val (.int kk), .val (.ref b1), .val (.int (1 : Int32)), .val (.int v), .val (.int y), .val (.int (1 : Int32)), .val (.int (1 : Int32)), .val (.int (1 : Int32))]) rfl ?_
    refine WP.iloadN at_95 rfl (pc' := 96) rfl ?_
    refine WP.ifEq at_96 (tgt := 113) (by decide) (pc' := 99) rfl (fun c96 => ?_) (fun c96 => ?_)
    · exfalso; omega
    refine WP.iload at_99 rfl (pc' := 101) rfl ?_
    refine WP.ifEq at_101 (tgt := 113) (by decide) (pc' := 104) rfl (fun c101 => ?_) (fun c101 => ?_)
    · exfalso; omega
    refine WP.iload at_104 rfl (pc' := 106) rfl ?_
    refine WP.ifEq at_106 (tgt := 113) (by decide) (pc' := 109) rfl (fun c106 => ?_) (fun c106 => ?_)
    · exfalso; omega
    refine WP.iconst at_109 (z := (1 : Int32)) rfl (pc' := 110) rfl ?_
    refine WP.goto at_110 (pc' := 114) (by decide) ?_
    exact WP.retN at_114 (t := .boolean) rfl (by simp) (by decide) (by decide) own_q1
  exfalso; omega
theorem comes_1 {Post : Tables → Env → Array Value → State → Outcome → State → Prop} (hpost : ∀ tb e args s v u, (limb_1_1.after args s (.returned v) u = true ∧ limb_1_2.after args s (.returned v) u = true ∧ True) → FrameEnd s (.returned v) u (Jvm.fieldLocs frame_1_writes args s ++ Jvm.arrayLocs frame_1_arrays args s ++ Jvm.staticLocs frame_1_statics s) 16 128 → Post tb e args s (.returned v) u) :
    ArmFor flags0 classFile x code maxLocals ret World_1 tables_1 room_1 Calls_1 rest_1 Pre_1 Post := by
  intro l hfl _ _ p e ha hc hk s m args below hf hA hF happ hP
  obtain ⟨hcalls, hrest, hpre⟩ := hP
  obtain ⟨-, -, -, hnamed, -, -, -, hat⟩ := (Spec.applies_iff hf).mp happ
  obtain ⟨hg, hn⟩ := and_e (Cond.before_iff.mp (show (Jvm.Cond.and given_1 narrow_1).before args s = true from hpre))
  obtain ⟨q0, g0⟩ := and_e hg
  obtain ⟨a0, a1, rfl⟩ : ∃ (a0 : Value) (a1 : Value), args = #[a0, a1] := by
    have hs : args.size = 2 := by simpa [Cond.value, given_1] using q0
    obtain ⟨L⟩ := args
    match L, hs with
    | [a0, a1], _ => exact ⟨a0, a1, rfl⟩
  have hw : HW s #[a0, a1] := fun d (hd : d ∈ tables_1) => atoms_spec (ws := Jvm.Cond.code x code maxLocals ret :: tables_1) hat d (List.mem_cons_of_mem _ hd)
  obtain ⟨p0, g1⟩ := and_e g0
  obtain ⟨i0, z0⟩ := is_v p0
  obtain rfl : a0 = (.int i0) := Option.some.inj z0
  obtain ⟨i1, z1⟩ := is_v g1
  obtain rfl : a1 = (.int i1) := Option.some.inj z1
  obtain ⟨n, o, h1, h2, h3, _, L, rfl, ⟨rfl, N, -⟩, hq⟩ := law_met hw i0 i1 (Nat.le_refl _) tables_1 p e ha hc hk s m _ below hf ((Spec.applies_iff_loose hf).mp happ).1 ⟨rfl, State.Warmed39.refl s, rfl⟩ trivial
  refine ⟨n, _, h1, h2, h3, hpost _ _ _ _ _ _ ⟨Cond.after_iff.mpr rfl, Cond.after_iff.mpr (eq_i res_at (Term.int_eval (1)) rfl), trivial⟩ ⟨hq.1, hq.2.1, (hq.2.2.sift fun y hy => Or.inr (N y hy)).mono (by decide) (by decide)⟩⟩
theorem main_1_1 : Claimed_1_1 := comes_1 fun _ _ _ _ _ _ h hF => ⟨h.1, hF⟩
theorem main_1_2 : Claimed_1_2 := comes_1 fun _ _ _ _ _ _ h hF => ⟨h.2.1, hF⟩
end Jvm.Pilot.@@N@@
namespace Jvm.Pilot.@@N@@
open Jvm Jvm.ClassFile Sem Op Lib Jvm.Free Jvm.Stand Jvm.Pilot.@@N@@.Jvm.D
/-! MADE BY PROGRAM (witnessworld.py) out of the Statement's table words and the real class files: 9 classes; the members and pool entries that the words name. The judged class is class 1, her method 4. -/
namespace start1
open Jvm.ClassFile
def u (s : String) : CpInfo := .utf8 (stringToUtf16 s)
/-- a pool by its gaps: so many unusable entries, then the entry; so many at the end -/
def gap : Nat → List CpInfo → List CpInfo
  | 0, r => r
  | n + 1, r => .unusable :: gap n r
def poolList (es : List (Nat × CpInfo)) (last : Nat) : List CpInfo := es.foldr (fun e r => gap e.1 (e.2 :: r)) (gap last [])
def pool (es : List (Nat × CpInfo)) (last : Nat) : Array CpInfo := ⟨poolList es last⟩
def fileOf (pool : Array CpInfo) (this : Nat) (attrs : Array Attribute := #[]) (ms : Array MethodInfo := #[]) (fl : Nat := 33) (sup : Nat := 0) (ifs : Array Nat := #[]) (fds : Array FieldInfo := #[]) : ClassFile where
  minorVersion := 0
  majorVersion := 65
  constantPool := pool
  accessFlags := fl
  thisClass := this
  superClass := sup
  interfaces := ifs
  fields := fds
  methods := ms
  attributes := attrs
def plain (name : String) (sup : Option ClassId) : Class where
  name := name
  kind := .ordinary
  loader := none
  accessFlags := 33
  super := sup
  interfaces := #[]
  cf := none
  fields := #[]
  methods := #[]
  instanceTypes := #[]
  staticTypes := #[]
  resolved := #[]
  callSites := []
  init := .initialized
  statics := none
  mirror := none

def pool0 : Array CpInfo := pool [(5, u "<init>"), (0, u "()V"), (1, .class_ 10), (1, u "java/lang/Object")] 113

def k0m0 : Method := { name := "<init>", desc := "()V", sig := { parameters := [], returnType := none }, accessFlags := 1, code := none }
/-- java/lang/Object -/
def k0 : Class := { plain "java/lang/Object" none with
  accessFlags := 33
  interfaces := #[]
  cf := some (fileOf pool0 8 #[] #[{ accessFlags := 1, nameIndex := 5, descriptorIndex := 6, attributes := #[] }] 33 0 #[] #[])
  fields := #[]
  methods := #[k0m0]
  instanceTypes := #[]
  staticTypes := #[]
  resolved := Array.replicate 124 none
  statics := none }

def pool1 : Array CpInfo := pool [(2, .class_ 4), (1, u "java/lang/Object"), (0, u "<init>"), (0, u "()V"), (0, .integer 55296), (0, .integer 63744), (0, .integer 64976), (0, .integer 65008), (0, .integer 65534), (0, .integer 65536), (0, .integer 983040), (2, .integer 2147483647), (0, .methodref 18 19), (0, .class_ 20), (0, .nameAndType 21 22), (0, u "com/example/chronoxyl/chronoxyl/history/XmlIsNameStartPinLaw"), (0, u "countAtMost"), (0, u "([II)I"), (0, .methodref 18 24), (0, .nameAndType 25 26), (0, u "edges"), (0, u "()[I"), (0, .methodref 28 29), (0, .class_ 30), (0, .nameAndType 31 32), (0, u "com/example/chronoxyl/chronoxyl/history/Xml"), (0, u "isNameStart"), (0, u "(I)Z"), (0, .methodref 18 34), (0, .nameAndType 35 36), (0, u "reference"), (0, u "([II)Z"), (3, u "law"), (0, u "(II)Z")] 4

def k1m0 : Method := { name := "<init>", desc := "()V", sig := { parameters := [], returnType := none }, accessFlags := 2, code := none }
def k1c1 : Code := { maxStack := 4, maxLocals := 0, code := method_2_code, exceptionTable := #[], attributes := #[] }
def k1m1 : Method := { name := "edges", desc := "()[I", sig := { parameters := [], returnType := some (.array .int) }, accessFlags := 10, code := some k1c1 }
def k1c2 : Code := { maxStack := 4, maxLocals := 3, code := method_3_code, exceptionTable := #[], attributes := #[] }
def k1m2 : Method := { name := "countAtMost", desc := "([II)I", sig := { parameters := [(.array .int), .int], returnType := some .int }, accessFlags := 10, code := some k1c2 }
def k1c3 : Code := { maxStack := 2, maxLocals := 2, code := method_4_code, exceptionTable := #[], attributes := #[] }
def k1m3 : Method := { name := "reference", desc := "([II)Z", sig := { parameters := [(.array .int), .int], returnType := some .boolean }, accessFlags := 10, code := some k1c3 }
def k1c4 : Code := { maxStack := 3, maxLocals := 9, code := code, exceptionTable := #[], attributes := #[] }
def k1m4 : Method := { name := "law", desc := "(II)Z", sig := { parameters := [.int, .int], returnType := some .boolean }, accessFlags := 9, code := some k1c4 }
/-- com/example/chronoxyl/chronoxyl/history/XmlIsNameStartPinLaw -/
def k1 : Class := { plain "com/example/chronoxyl/chronoxyl/history/XmlIsNameStartPinLaw" (some 0) with
  accessFlags := 49
  interfaces := #[]
  cf := some (fileOf pool1 18 #[] #[{ accessFlags := 2, nameIndex := 5, descriptorIndex := 6, attributes := #[] }, { accessFlags := 10, nameIndex := 25, descriptorIndex := 26, attributes := #[] }, { accessFlags := 10, nameIndex := 21, descriptorIndex := 22, attributes := #[] }, { accessFlags := 10, nameIndex := 35, descriptorIndex := 36, attributes := #[] }, { accessFlags := 9, nameIndex := 40, descriptorIndex := 41, attributes := #[] }] 49 2 #[] #[])
  fields := #[]
  methods := #[k1m0, k1m1, k1m2, k1m3, k1m4]
  instanceTypes := #[]
  staticTypes := #[]
  resolved := Array.replicate 46 none
  statics := none }

def pool2 : Array CpInfo := pool [(2, .class_ 4), (1, u "java/lang/Object"), (0, u "<init>"), (0, u "()V"), (11, .class_ 20), (1, u "com/example/chronoxyl/chronoxyl/history/Xml"), (0, u "isNameStart"), (0, u "(I)Z"), (12, .integer 55295), (1, .integer 65533), (0, .integer 65536), (1, .integer 63744), (0, .integer 64975), (0, .integer 65008), (0, .integer 983039), (0, u "NAMESPACE"), (0, u "Ljava/lang/String;")] 11

def k2m0 : Method := { name := "<init>", desc := "()V", sig := { parameters := [], returnType := none }, accessFlags := 2, code := none }
def k2c1 : Code := { maxStack := 2, maxLocals := 1, code := prog_47_method_4_code, exceptionTable := #[], attributes := #[] }
def k2m1 : Method := { name := "isNameStart", desc := "(I)Z", sig := { parameters := [.int], returnType := some .boolean }, accessFlags := 9, code := some k2c1 }
/-- com/example/chronoxyl/chronoxyl/history/Xml -/
def k2 : Class := { plain "com/example/chronoxyl/chronoxyl/history/Xml" (some 0) with
  accessFlags := 49
  interfaces := #[]
  cf := some (fileOf pool2 18 #[] #[{ accessFlags := 2, nameIndex := 5, descriptorIndex := 6, attributes := #[] }, { accessFlags := 9, nameIndex := 21, descriptorIndex := 22, attributes := #[] }] 49 2 #[] #[{ accessFlags := 25, nameIndex := 44, descriptorIndex := 45, attributes := #[] }])
  fields := #[{ name := "NAMESPACE", type := (.object "java/lang/String"), accessFlags := 25, slot := 0, constantValue := 0 }]
  methods := #[k2m0, k2m1]
  instanceTypes := #[]
  staticTypes := #[(.object "java/lang/String")]
  resolved := Array.replicate 57 none
  statics := none }

def pool3 : Array CpInfo := pool [(1, u "java/lang/Cloneable"), (0, .class_ 1), (0, u "java/lang/Object"), (0, .class_ 3)] 3

/-- java/lang/Cloneable -/
def k3 : Class := { plain "java/lang/Cloneable" (some 0) with
  accessFlags := 1537
  interfaces := #[]
  cf := some (fileOf pool3 2 #[] #[] 1537 4 #[] #[])
  fields := #[]
  methods := #[]
  instanceTypes := #[]
  staticTypes := #[]
  resolved := Array.replicate 8 none
  statics := none }

def pool4 : Array CpInfo := pool [(1, u "java/io/Serializable"), (0, .class_ 1), (0, u "java/lang/Object"), (0, .class_ 3)] 3

/-- java/io/Serializable -/
def k4 : Class := { plain "java/io/Serializable" (some 0) with
  accessFlags := 1537
  interfaces := #[]
  cf := some (fileOf pool4 2 #[] #[] 1537 4 #[] #[])
  fields := #[]
  methods := #[]
  instanceTypes := #[]
  staticTypes := #[]
  resolved := Array.replicate 8 none
  statics := none }

/-- the primitive byte -/
def k5 : Class := { plain "byte" none with kind := .primitive 'B', accessFlags := 0x411 }
/-- [B -/
def k6 : Class := { plain "[B" (some 0) with kind := .array 5 .byte, interfaces := #[3, 4], accessFlags := 1041 }

/-- the primitive int -/
def k7 : Class := { plain "int" none with kind := .primitive 'I', accessFlags := 0x411 }
/-- [I -/
def k8 : Class := { plain "[I" (some 0) with kind := .array 7 .int, interfaces := #[3, 4], accessFlags := 1041 }

def heap : Heap := #[]
def classes : Array Class := #[k0, k1, k2, k3, k4, k5, k6, k7, k8]
def interned : List (Array UInt16 × Addr) := []
def slotsUsed : Nat := 0
def theMethod : MethodId := ⟨1, 4⟩
def args0 : Array Value := #[.int 70, .int 7]
def aboutOver (below : List Frame) : State where
  vm := { classes := classes, interned := interned.toArray }
  heap := heap
  slotsUsed := slotsUsed
  threads := #[{ frames := .invoking theMethod args0 :: below }]
def below0 : List Frame := [.native { method := ⟨0, 0⟩, args := #[] }]
def about1 : State := aboutOver below0
def p0 : Program := .bare "" "" ""
def e0 : Env := launch0.env 0 0 0
theorem w_frames : about1.frames = Frame.invoking theMethod args0 :: below0 := rfl
set_option maxRecDepth 65536 in
theorem w_args : argsFit about1.vm theMethod args0 = true := by decide +kernel
set_option maxRecDepth 65536 in
theorem w_heap : heapFits about1 = true := by decide +kernel
set_option maxRecDepth 65536 in
theorem w_runnable : about1.curStatus? = some .runnable := by decide +kernel
set_option maxRecDepth 65536 in
theorem w_alone : about1.alone = true := by decide +kernel
set_option maxRecDepth 65536 in
theorem w_named : about1.methodNamed? x = some theMethod := by decide +kernel
set_option maxRecDepth 65536 in
theorem w_hears : about1.hears theMethod below0 = true := by decide +kernel
set_option maxRecDepth 65536 in
theorem w_ripe : about1.ripe theMethod args0 below0 = true := by decide +kernel
theorem w_running : about1.status = .running := rfl
set_option maxRecDepth 65536 in
theorem w_room : about1.hasRoom e0.platform room_1 = true :=
  launch0.hasRoom_least _ room_1 (by decide +kernel) (by decide +kernel) (by decide +kernel) (by decide +kernel) (by decide +kernel) (by decide +kernel)
theorem allAtoms_all (ts : List Jvm.Cond) (a : Array Jvm.Value) (st : Jvm.State) : (allAtoms ts).before a st = ts.all (fun c => c.before a st) := by
  induction ts with
  | nil => rfl
  | cons c t ih =>
    show (Jvm.Cond.and c (allAtoms t)).before a st = _
    rw [Jvm.Cond.before_and, ih, List.all_cons]
def words1 : List Jvm.Cond := Jvm.Cond.code x code maxLocals ret :: tables_1
/-- a 'code' word, met by the world's own term for the bytes: nothing is compared byte by byte -/
theorem code_word {y : MethodName} {bytes : ByteArray} {mx : Nat} {rt : Option FieldType} {a : Array Value} {s : State} {m : MethodId} {meth : Method} {c : Code} (h1 : s.methodNamed? y = some m) (h2 : s.vm.method? m = some meth) (h3 : meth.code = some c) (h4 : c.code = bytes)
    (h5 : (c.maxLocals == mx && c.exceptionTable.isEmpty && decide (c.maxStack ≤ mostOperands) && decide (meth.sig.returnType = rt) && !meth.locks && decide (parseMethodDescriptor y.desc = some meth.sig)) = true) : (Jvm.Cond.code y bytes mx rt).before a s = true := by
  simp only [Bool.and_eq_true, beq_iff_eq, Bool.not_eq_true', decide_eq_true_eq] at h5
  obtain ⟨⟨⟨⟨⟨g1, g2⟩, g3⟩, g4⟩, g5⟩, g6⟩ := h5
  simp [Cond.before, Cond.holds, Cond.value, h1, h2, h3, h4, g1, g2, g3, g4, g5, g6]
def isCode : Jvm.Cond → Bool
  | .code _ _ _ _ => true
  | _ => false
theorem all_split {L : List Jvm.Cond} {P : Jvm.Cond → Bool} (h1 : L.all (fun c => isCode c || P c) = true) (h2 : ∀ c ∈ L.filter isCode, P c = true) : L.all P = true := by
  refine List.all_eq_true.mpr fun c hc => ?_
  have h := List.all_eq_true.mp h1 c hc
  rcases Bool.eq_false_or_eq_true (isCode c) with hi | hi
  · exact h2 c (List.mem_filter.mpr ⟨hc, hi⟩)
  · simpa [hi] using h
set_option maxRecDepth 65536 in
theorem w_c0 : (Jvm.Cond.code x code maxLocals ret).before args0 about1 = true := code_word (m := ⟨1, 4⟩) (meth := k1m4) (c := k1c4) (by decide +kernel) rfl rfl rfl (by decide +kernel)
set_option maxRecDepth 65536 in
theorem w_c1 : (Jvm.Cond.code ({ cls := "com/example/chronoxyl/chronoxyl/history/XmlIsNameStartPinLaw", name := "edges", desc := "()[I" } : Jvm.MethodName) method_2_code (0 : Nat) (Option.some (Jvm.ClassFile.FieldType.array Jvm.ClassFile.FieldType.int))).before args0 about1 = true := code_word (m := ⟨1, 1⟩) (meth := k1m1) (c := k1c1) (by decide +kernel) rfl rfl rfl (by decide +kernel)
set_option maxRecDepth 65536 in
theorem w_c2 : (Jvm.Cond.code ({ cls := "com/example/chronoxyl/chronoxyl/history/Xml", name := "isNameStart", desc := "(I)Z" } : Jvm.MethodName) prog_47_method_4_code (1 : Nat) (Option.some Jvm.ClassFile.FieldType.boolean)).before args0 about1 = true := code_word (m := ⟨2, 1⟩) (meth := k2m1) (c := k2c1) (by decide +kernel) rfl rfl rfl (by decide +kernel)
set_option maxRecDepth 65536 in
theorem w_c3 : (Jvm.Cond.code ({ cls := "com/example/chronoxyl/chronoxyl/history/XmlIsNameStartPinLaw", name := "reference", desc := "([II)Z" } : Jvm.MethodName) method_4_code (2 : Nat) (Option.some Jvm.ClassFile.FieldType.boolean)).before args0 about1 = true := code_word (m := ⟨1, 3⟩) (meth := k1m3) (c := k1c3) (by decide +kernel) rfl rfl rfl (by decide +kernel)
set_option maxRecDepth 65536 in
theorem w_c4 : (Jvm.Cond.code ({ cls := "com/example/chronoxyl/chronoxyl/history/XmlIsNameStartPinLaw", name := "countAtMost", desc := "([II)I" } : Jvm.MethodName) method_3_code (3 : Nat) (Option.some Jvm.ClassFile.FieldType.int)).before args0 about1 = true := code_word (m := ⟨1, 2⟩) (meth := k1m2) (c := k1c2) (by decide +kernel) rfl rfl rfl (by decide +kernel)
def codes1 : List Jvm.Cond := [Jvm.Cond.code x code maxLocals ret, Jvm.Cond.code ({ cls := "com/example/chronoxyl/chronoxyl/history/XmlIsNameStartPinLaw", name := "edges", desc := "()[I" } : Jvm.MethodName) method_2_code (0 : Nat) (Option.some (Jvm.ClassFile.FieldType.array Jvm.ClassFile.FieldType.int)), Jvm.Cond.code ({ cls := "com/example/chronoxyl/chronoxyl/history/Xml", name := "isNameStart", desc := "(I)Z" } : Jvm.MethodName) prog_47_method_4_code (1 : Nat) (Option.some Jvm.ClassFile.FieldType.boolean), Jvm.Cond.code ({ cls := "com/example/chronoxyl/chronoxyl/history/XmlIsNameStartPinLaw", name := "reference", desc := "([II)Z" } : Jvm.MethodName) method_4_code (2 : Nat) (Option.some Jvm.ClassFile.FieldType.boolean), Jvm.Cond.code ({ cls := "com/example/chronoxyl/chronoxyl/history/XmlIsNameStartPinLaw", name := "countAtMost", desc := "([II)I" } : Jvm.MethodName) method_3_code (3 : Nat) (Option.some Jvm.ClassFile.FieldType.int)]
set_option maxRecDepth 65536 in
theorem codes_eq : words1.filter isCode = codes1 := rfl
theorem w_codes : ∀ c ∈ words1.filter isCode, c.before args0 about1 = true := by
  rw [codes_eq]
  intro c hc
  simp only [codes1, List.mem_cons, List.not_mem_nil, or_false] at hc
  rcases hc with rfl | rfl | rfl | rfl | rfl
  · exact w_c0
  · exact w_c1
  · exact w_c2
  · exact w_c3
  · exact w_c4
set_option maxRecDepth 65536 in
theorem w_t1 : (words1.take 24).all (fun c => isCode c || c.before args0 about1) = true := by decide +kernel
set_option maxRecDepth 65536 in
theorem w_t2 : (words1.drop 24).all (fun c => isCode c || c.before args0 about1) = true := by decide +kernel
theorem w_tables : (allAtoms (Jvm.Cond.code x code maxLocals ret :: tables_1)).before args0 about1 = true := by
  rw [allAtoms_all]
  show words1.all (fun c => c.before args0 about1) = true
  refine all_split ?_ w_codes
  rw [← List.take_append_drop 24 words1, List.all_append, w_t1, w_t2]
  rfl
set_option maxRecDepth 65536 in
theorem w_case : (Jvm.Cond.and given_1 narrow_1).before args0 about1 = true := by decide +kernel
theorem w_applies : (headSpec (Jvm.Cond.code x code maxLocals ret :: tables_1) room_1).applies x e0.platform about1 = true :=
  (Spec.applies_iff w_frames).mpr ⟨w_running, w_runnable, w_alone, w_named, w_hears, w_ripe, w_room, w_tables⟩
theorem atStart : AtStart classFile x code maxLocals ret World_1 tables_1 room_1 Calls_1 rest_1 Pre_1 launch0 p0 e0 about1 theMethod args0 below0 :=
  ⟨lists_1, trivial, launch0.admits_env _ _ _, launch0.least_env, fairChoices_fair.cas, fairChoices_fair.clock, w_frames, w_args, w_heap, w_applies, trivial, trivial, w_case⟩
end start1
theorem witness_1 : WitnessClaimed_1 := ⟨start1.p0, start1.e0, start1.about1, start1.theMethod, start1.args0, start1.below0, start1.atStart⟩
end Jvm.Pilot.@@N@@

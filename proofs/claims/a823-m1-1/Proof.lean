import JvmDerived
import JvmDerived.Pilot.@@N@@Statement
import JvmDerived.Pilot.@@N@@Code
set_option linter.unusedVariables false
set_option linter.unusedSimpArgs false
set_option maxRecDepth 65536
set_option maxHeartbeats 2000000

namespace Jvm.OwnWP
open Sem ClassFile Op Lib Jvm.Stand Jvm.Free Jvm.LawKit Jvm.RoadKit
/-- Java's shifts and its comparison of longs -/
def ushr (x y : Int32) : Int32 := (x.toUInt32 >>> (y &&& 31).toUInt32).toInt32
def ushrL (x : Int64) (y : Int32) : Int64 := (x.toUInt64 >>> (y &&& 0x3f).toInt64.toUInt64).toInt64
def cmpL (x y : Int64) : Int32 := if x > y then 1 else if x = y then 0 else -1
/-! A body: its class, its name, bytes, max_locals, what it returns, its room. -/
abbrev Bod : Type := String × String × ByteArray × Nat × Option FieldType × Room
abbrev Bod.own (B : Bod) : String := B.1
abbrev Bod.mname (B : Bod) : String := B.2.1
abbrev Bod.bytes (B : Bod) : ByteArray := B.2.2.1
abbrev Bod.maxL (B : Bod) : Nat := B.2.2.2.1
abbrev Bod.ret (B : Bod) : Option FieldType := B.2.2.2.2.1
abbrev Bod.room (B : Bod) : Room := B.2.2.2.2.2
def Ctx (p : Program) (s : State) (m : MethodId) (meth : Method) (c : Code) (Z : State) (B : Bod) : Prop :=
  p.tables.exec = Jvm.exec ∧ Z.Warmed39 s.vm ∧ s.vm.findClass B.own = some m.cls ∧ c.code = B.bytes ∧ c.maxLocals = B.maxL ∧ meth.sig.returnType = B.ret ∧ meth.locks = false ∧ meth.name = B.mname
/-- From pc, with these locals and this stack, over the heap h, the body returns, and Q says of what it returns and of the heap. -/
def WP (l : Launch) (B : Bod) (Z : State) (n0 : Nat) (Q : Option Value → Heap → Prop) (h : Heap) (cs sl pc : Nat) (ls : Array Slot) (st : List Value) : Prop :=
  ∀ (p : Program) (e : Env) (s : State) (m : MethodId) (args : Array Value) (below : List Frame) (meth : Method) (c : Code) (T : State) (L : List Loc),
    Ctx p s m meth c Z B → Stand p l e B.room s m args below meth c T L cs sl → T.heap = h → Fr n0 L → n0 ≤ h.size →
    ∃ (U : State) (v : Option Value) (L' : List Loc), Steps p.tables e below (T.setTop (mkF m pc ls st)) U ∧ U.status = .running ∧ Ended U below (.returned v) ∧ Q v U.heap ∧ Fr n0 L' ∧ n0 ≤ U.heap.size ∧ FrameEnd s (.returned v) U L' B.room.cells B.room.slots
/-- The contract of a body: called with the arguments as over the heap h0. -/
def OMet (l : Launch) (y : MethodName) (B : Bod) (Z : State) (n0 : Nat) (as : Array Value) (h0 : Heap) (Q : Option Value → Heap → Prop) : Prop :=
  n0 ≤ h0.size → ∀ ws, MetFree l y (head1 (Cond.code y B.bytes B.maxL B.ret :: ws) B.room) (fun a U => a = as ∧ Z.Warmed39 U.vm ∧ U.heap = h0) (fun _ _ _ _ _ => True) (fun _ U o U' => ∃ v L, o = .returned v ∧ (Q v U'.heap ∧ Fr n0 L ∧ n0 ≤ U'.heap.size) ∧ FrameEnd U o U' L B.room.cells B.room.slots)
section W
variable {l : Launch} {B : Bod} {Z : State} {n0 : Nat} {Q : Option Value → Heap → Prop} {h : Heap} {cs sl pc pc' : Nat} {ls ls' : Array Slot} {st rest : List Value} {a0 : Array Value}
theorem OMet.of_wp {y : MethodName} {as : Array Value} {ls0 : Array Slot} (hpl : plainFor y = true) (h1 : y.cls = B.own) (h2 : y.name = B.mname) (hef : ∀ m, entryFrame m as B.maxL = mkF m 0 ls0 []) (H : WP l B Z n0 Q h 0 0 0 ls0 []) : OMet l y B Z n0 as h Q := by
  intro hn ws
  refine MetFree.of_bodySF hpl hisR ?_
  intro p e s m args below meth c s₁ Bd hml0 hP hK
  obtain ⟨rfl, hZ, hh⟩ := hP
  have hnm := (name_of_methodNamed Bd.named Bd.method).1
  have hown : s.vm.findClass y.cls = some m.cls := findClass_of_methodNamed Bd.named
  have X0 := Stand.of_body Bd
  have e0 : s₁.heap = h := by rw [← hh, Bd.state]; rfl
  obtain ⟨U, v, L', a1, a2, a3, a4, a5, a6, a7⟩ := H p e s m args below meth c s₁ [] ⟨Bd.exec, hZ, h1 ▸ hown, Bd.bytes, hml0, Bd.returns, Bd.notSynchronized, hnm.trans h2⟩ X0 e0 (Fr.nil n0) hn
  exact ⟨U, _, castTop (hef m) a1, a2, a3, v, L', rfl, ⟨a4, a5, a6⟩, a7⟩
theorem WP.mono {Q' : Option Value → Heap → Prop} (H : WP l B Z n0 Q' h cs sl pc ls st) (hq : ∀ v h', Q' v h' → Q v h') : WP l B Z n0 Q h cs sl pc ls st := by
  intro p e s m args below meth c T L C X hT N hn
  obtain ⟨U, v, L', a1, a2, a3, a4, r⟩ := H p e s m args below meth c T L C X hT N hn
  exact ⟨U, v, L', a1, a2, a3, hq _ _ a4, r⟩
/-- a plain step: the state stays, the frame moves -/
theorem WP.step {pc' : Nat} {ls' : Array Slot} {st' : List Value}
    (S : ∀ (p : Program) (e : Env) (s : State) (m : MethodId) (args : Array Value) (below : List Frame) (meth : Method) (c : Code) (T : State) (L : List Loc), Ctx p s m meth c Z B → Stand p l e B.room s m args below meth c T L cs sl → T.heap = h → ∀ target, Steps p.tables e below (T.setTop (mkF m pc' ls' st')) target → Steps p.tables e below (T.setTop (mkF m pc ls st)) target)
    (H : WP l B Z n0 Q h cs sl pc' ls' st') : WP l B Z n0 Q h cs sl pc ls st := by
  intro p e s m args below meth c T L C X hT N hn
  obtain ⟨U, v, L', a1, r⟩ := H p e s m args below meth c T L C X hT N hn
  exact ⟨U, v, L', S p e s m args below meth c T L C X hT _ a1, r⟩
/-- a step to another state -/
theorem WP.stepT {pc' cs' sl' : Nat} {ls' : Array Slot} {st' : List Value} {P : Heap → Prop}
    (S : ∀ (p : Program) (e : Env) (s : State) (m : MethodId) (args : Array Value) (below : List Frame) (meth : Method) (c : Code) (T : State) (L : List Loc), Ctx p s m meth c Z B → Stand p l e B.room s m args below meth c T L cs sl → T.heap = h → Fr n0 L → n0 ≤ h.size →
      ∃ (T' : State) (h' : Heap) (L' : List Loc), Stand p l e B.room s m args below meth c T' L' cs' sl' ∧ T'.heap = h' ∧ Fr n0 L' ∧ n0 ≤ h'.size ∧ P h' ∧ ∀ target, Steps p.tables e below (T'.setTop (mkF m pc' ls' st')) target → Steps p.tables e below (T.setTop (mkF m pc ls st)) target)
    (H : ∀ h', P h' → WP l B Z n0 Q h' cs' sl' pc' ls' st') : WP l B Z n0 Q h cs sl pc ls st := by
  intro p e s m args below meth c T L C X hT N hn
  obtain ⟨T', h', L1, X', e', N', n', hp, st⟩ := S p e s m args below meth c T L C X hT N hn
  obtain ⟨U, v, L', a1, r⟩ := H h' hp p e s m args below meth c T' L1 C X' e' N' n'
  exact ⟨U, v, L', st _ a1, r⟩
/-! loads, stores, constants -/
theorem WP.iloadN {k : Fin 4} {v : Int32} (hd : decode B.bytes pc = .ok (.iload_n k, 1)) (hl : ls[k.val]? = some (.val (.int v))) (hp : pc + 1 = pc') (H : WP l B Z n0 Q h cs sl pc' ls (.int v :: st)) : WP l B Z n0 Q h cs sl pc ls st := by
  subst hp; exact WP.step (fun p e s m args below meth c T L C X hT target k => XS.iloadN X.here C.1 rfl (hb C.2.2.2.1 hd) hl k) H
theorem WP.iload {k : Nat} {v : Int32} (hd : decode B.bytes pc = .ok (.iload k, 2)) (hl : ls[k]? = some (.val (.int v))) (hp : pc + 2 = pc') (H : WP l B Z n0 Q h cs sl pc' ls (.int v :: st)) : WP l B Z n0 Q h cs sl pc ls st := by
  subst hp; exact WP.step (fun p e s m args below meth c T L C X hT target k => XS.iload X.here C.1 rfl (hb C.2.2.2.1 hd) hl k) H
theorem WP.lloadN {k : Fin 4} {v : Int64} (hd : decode B.bytes pc = .ok (.lload_n k, 1)) (hl : ls[k.val]? = some (.val (.long v))) (hp : pc + 1 = pc') (H : WP l B Z n0 Q h cs sl pc' ls (.long v :: st)) : WP l B Z n0 Q h cs sl pc ls st := by
  subst hp; exact WP.step (fun p e s m args below meth c T L C X hT target k => XS.lloadN X.here C.1 rfl (hb C.2.2.2.1 hd) hl k) H
theorem WP.lload {k : Nat} {v : Int64} (hd : decode B.bytes pc = .ok (.lload k, 2)) (hl : ls[k]? = some (.val (.long v))) (hp : pc + 2 = pc') (H : WP l B Z n0 Q h cs sl pc' ls (.long v :: st)) : WP l B Z n0 Q h cs sl pc ls st := by
  subst hp; exact WP.step (fun p e s m args below meth c T L C X hT target k => XS.lload X.here C.1 rfl (hb C.2.2.2.1 hd) hl k) H
theorem WP.aloadN {k : Fin 4} {v : Value} (hd : decode B.bytes pc = .ok (.aload_n k, 1)) (hl : ls[k.val]? = some (.val v)) (hv : v.isRef = true) (hp : pc + 1 = pc') (H : WP l B Z n0 Q h cs sl pc' ls (v :: st)) : WP l B Z n0 Q h cs sl pc ls st := by
  subst hp; exact WP.step (fun p e s m args below meth c T L C X hT target k => XS.aloadN X.here C.1 rfl (hb C.2.2.2.1 hd) hl hv k) H
theorem WP.aload {k : Nat} {v : Value} (hd : decode B.bytes pc = .ok (.aload k, 2)) (hl : ls[k]? = some (.val v)) (hv : v.isRef = true) (hp : pc + 2 = pc') (H : WP l B Z n0 Q h cs sl pc' ls (v :: st)) : WP l B Z n0 Q h cs sl pc ls st := by
  subst hp; exact WP.step (fun p e s m args below meth c T L C X hT target k => XS.aload X.here C.1 rfl (hb C.2.2.2.1 hd) hl hv k) H
theorem WP.istoreN {k : Fin 4} {x : Int32} (hd : decode B.bytes pc = .ok (.istore_n k, 1)) (hp : pc + 1 = pc') (hl : storeLocals ls k.val (.int x) = some ls') (H : WP l B Z n0 Q h cs sl pc' ls' st) : WP l B Z n0 Q h cs sl pc ls (.int x :: st) := by
  subst hp; exact WP.step (fun p e s m args below meth c T L C X hT target k => XS.istoreN X.here C.1 rfl (hb C.2.2.2.1 hd) rfl hl k) H
theorem WP.istore {k : Nat} {x : Int32} (hd : decode B.bytes pc = .ok (.istore k, 2)) (hp : pc + 2 = pc') (hl : storeLocals ls k (.int x) = some ls') (H : WP l B Z n0 Q h cs sl pc' ls' st) : WP l B Z n0 Q h cs sl pc ls (.int x :: st) := by
  subst hp; exact WP.step (fun p e s m args below meth c T L C X hT target k => XS.istore X.here C.1 rfl (hb C.2.2.2.1 hd) rfl hl k) H
theorem WP.lstoreN {k : Fin 4} {x : Int64} (hd : decode B.bytes pc = .ok (.lstore_n k, 1)) (hp : pc + 1 = pc') (hl : storeLocals ls k.val (.long x) = some ls') (H : WP l B Z n0 Q h cs sl pc' ls' st) : WP l B Z n0 Q h cs sl pc ls (.long x :: st) := by
  subst hp; exact WP.step (fun p e s m args below meth c T L C X hT target k => XS.lstoreN X.here C.1 rfl (hb C.2.2.2.1 hd) rfl hl k) H
theorem WP.lstore {k : Nat} {x : Int64} (hd : decode B.bytes pc = .ok (.lstore k, 2)) (hp : pc + 2 = pc') (hl : storeLocals ls k (.long x) = some ls') (H : WP l B Z n0 Q h cs sl pc' ls' st) : WP l B Z n0 Q h cs sl pc ls (.long x :: st) := by
  subst hp; exact WP.step (fun p e s m args below meth c T L C X hT target k => XS.lstore X.here C.1 rfl (hb C.2.2.2.1 hd) rfl hl k) H
theorem WP.astoreN {k : Fin 4} {x : Value} (hd : decode B.bytes pc = .ok (.astore_n k, 1)) (hp : pc + 1 = pc') (hv : x.isRef = true) (hl : storeLocals ls k.val x = some ls') (H : WP l B Z n0 Q h cs sl pc' ls' st) : WP l B Z n0 Q h cs sl pc ls (x :: st) := by
  subst hp; exact WP.step (fun p e s m args below meth c T L C X hT target k => XS.astoreN X.here C.1 rfl (hb C.2.2.2.1 hd) rfl hv hl k) H
theorem WP.astore {k : Nat} {x : Value} (hd : decode B.bytes pc = .ok (.astore k, 2)) (hp : pc + 2 = pc') (hv : x.isRef = true) (hl : storeLocals ls k x = some ls') (H : WP l B Z n0 Q h cs sl pc' ls' st) : WP l B Z n0 Q h cs sl pc ls (x :: st) := by
  subst hp; exact WP.step (fun p e s m args below meth c T L C X hT target k => XS.astore X.here C.1 rfl (hb C.2.2.2.1 hd) rfl hv hl k) H
theorem WP.iconst {i : Int} {z : Int32} (hd : decode B.bytes pc = .ok (.iconst i, 1)) (hz : Int32.ofInt i = z) (hp : pc + 1 = pc') (H : WP l B Z n0 Q h cs sl pc' ls (.int z :: st)) : WP l B Z n0 Q h cs sl pc ls st := by
  subst hp hz; exact WP.step (fun p e s m args below meth c T L C X hT target k => XS.iconst X.here C.1 rfl (hb C.2.2.2.1 hd) k) H
theorem WP.bipush {i : Int} {z : Int32} (hd : decode B.bytes pc = .ok (.bipush i, 2)) (hz : (Int8.ofInt i).toInt32 = z) (hp : pc + 2 = pc') (H : WP l B Z n0 Q h cs sl pc' ls (.int z :: st)) : WP l B Z n0 Q h cs sl pc ls st := by
  subst hp hz; exact WP.step (fun p e s m args below meth c T L C X hT target k => XS.bipush X.here C.1 rfl (hb C.2.2.2.1 hd) k) H
theorem WP.sipush {i : Int} {z : Int32} (hd : decode B.bytes pc = .ok (.sipush i, 3)) (hz : (Int16.ofInt i).toInt32 = z) (hp : pc + 3 = pc') (H : WP l B Z n0 Q h cs sl pc' ls (.int z :: st)) : WP l B Z n0 Q h cs sl pc ls st := by
  subst hp hz; exact WP.step (fun p e s m args below meth c T L C X hT target k => XS.sipush X.here C.1 rfl (hb C.2.2.2.1 hd) k) H
theorem WP.lconst0 (hd : decode B.bytes pc = .ok (.lconst 0, 1)) (hp : pc + 1 = pc') (H : WP l B Z n0 Q h cs sl pc' ls (.long 0 :: st)) : WP l B Z n0 Q h cs sl pc ls st := by
  subst hp; exact WP.step (fun p e s m args below meth c T L C X hT target k => XS.lconst X.here C.1 rfl (hb C.2.2.2.1 hd) k) H
theorem WP.lconst1 (hd : decode B.bytes pc = .ok (.lconst 1, 1)) (hp : pc + 1 = pc') (H : WP l B Z n0 Q h cs sl pc' ls (.long 1 :: st)) : WP l B Z n0 Q h cs sl pc ls st := by
  subst hp; exact WP.step (fun p e s m args below meth c T L C X hT target k => XS.lconst X.here C.1 rfl (hb C.2.2.2.1 hd) k) H
theorem WP.aconstNull (hd : decode B.bytes pc = .ok (.aconst_null, 1)) (hp : pc + 1 = pc') (H : WP l B Z n0 Q h cs sl pc' ls (.null :: st)) : WP l B Z n0 Q h cs sl pc ls st := by
  subst hp; exact WP.step (fun p e s m args below meth c T L C X hT target k => XS.aconstNull X.here C.1 rfl (hb C.2.2.2.1 hd) k) H
theorem WP.ldcI {i : Nat} {z : Int32} (hd : decode B.bytes pc = .ok (.ldc i, 2)) (w : (Cond.constant B.own i z).before a0 Z = true) (hp : pc + 2 = pc') (H : WP l B Z n0 Q h cs sl pc' ls (.int z :: st)) : WP l B Z n0 Q h cs sl pc ls st := by
  subst hp; exact WP.step (fun p e s m args below meth c T L C X hT target k => X.ldcInt C.1 C.2.2.1 (mvT C.2.1 w) (g := mkF m pc ls st) rfl (hb C.2.2.2.1 hd) _ k) H
theorem WP.ldcwI {i : Nat} {z : Int32} (hd : decode B.bytes pc = .ok (.ldc_w i, 3)) (w : (Cond.constant B.own i z).before a0 Z = true) (hp : pc + 3 = pc') (H : WP l B Z n0 Q h cs sl pc' ls (.int z :: st)) : WP l B Z n0 Q h cs sl pc ls st := by
  subst hp; exact WP.step (fun p e s m args below meth c T L C X hT target k => X.ldcwInt C.1 C.2.2.1 (mvT C.2.1 w) (g := mkF m pc ls st) rfl (hb C.2.2.2.1 hd) _ k) H
theorem WP.ldc2J {i : Nat} {z : Int64} (hd : decode B.bytes pc = .ok (.ldc2_w i, 3)) (w : (Cond.constantLong B.own i z).before a0 Z = true) (hp : pc + 3 = pc') (H : WP l B Z n0 Q h cs sl pc' ls (.long z :: st)) : WP l B Z n0 Q h cs sl pc ls st := by
  subst hp; exact WP.step (fun p e s m args below meth c T L C X hT target k => X.ldc2Long C.1 C.2.2.1 (mvT C.2.1 w) (g := mkF m pc ls st) rfl (hb C.2.2.2.1 hd) _ k) H
theorem WP.iinc {k : Nat} {cst : Int} {x y : Int32} (hd : decode B.bytes pc = .ok (.iinc k cst, 3)) (hp : pc + 3 = pc') (hl : ls[k]? = some (.val (.int x))) (hy : x + Int32.ofInt cst = y) (hl' : storeLocals ls k (.int y) = some ls') (H : WP l B Z n0 Q h cs sl pc' ls' st) : WP l B Z n0 Q h cs sl pc ls st := by
  subst hp hy; exact WP.step (fun p e s m args below meth c T L C X hT target k => XS.iinc X.here C.1 rfl (hb C.2.2.2.1 hd) hl hl' k) H
/-! the stack -/
theorem WP.dup {x : Value} (hd : decode B.bytes pc = .ok (.dup, 1)) (hc : x.category = 1) (hp : pc + 1 = pc') (H : WP l B Z n0 Q h cs sl pc' ls (x :: x :: st)) : WP l B Z n0 Q h cs sl pc ls (x :: st) := by
  subst hp; exact WP.step (fun p e s m args below meth c T L C X hT target k => XS.dup X.here C.1 rfl (hb C.2.2.2.1 hd) rfl hc k) H
theorem WP.pop {x : Value} (hd : decode B.bytes pc = .ok (.pop, 1)) (hc : x.category = 1) (hp : pc + 1 = pc') (H : WP l B Z n0 Q h cs sl pc' ls st) : WP l B Z n0 Q h cs sl pc ls (x :: st) := by
  subst hp; exact WP.step (fun p e s m args below meth c T L C X hT target k => XS.pop X.here C.1 rfl (hb C.2.2.2.1 hd) rfl hc k) H
theorem WP.dupX1 {x y : Value} (hd : decode B.bytes pc = .ok (.dup_x1, 1)) (hc : x.category = 1) (hc' : y.category = 1) (hp : pc + 1 = pc') (H : WP l B Z n0 Q h cs sl pc' ls (x :: y :: x :: st)) : WP l B Z n0 Q h cs sl pc ls (x :: y :: st) := by
  subst hp; exact WP.step (fun p e s m args below meth c T L C X hT target k => XS.dupX1 X.here C.1 rfl (hb C.2.2.2.1 hd) rfl hc hc' k) H
theorem WP.dup2 {x y : Value} (hd : decode B.bytes pc = .ok (.dup2, 1)) (hc : x.category = 1) (hc' : y.category = 1) (hp : pc + 1 = pc') (H : WP l B Z n0 Q h cs sl pc' ls (x :: y :: x :: y :: st)) : WP l B Z n0 Q h cs sl pc ls (x :: y :: st) := by
  subst hp; exact WP.step (fun p e s m args below meth c T L C X hT target k => Jvm.Free.XT.dup2 X.here C.1 rfl (hb C.2.2.2.1 hd) rfl hc hc' k) H
/-! arithmetic -/
theorem WP.iadd {x : Int32} {y : Int32} (hd : decode B.bytes pc = .ok (.iadd, 1)) (hp : pc + 1 = pc') (H : WP l B Z n0 Q h cs sl pc' ls (.int (x + y) :: st)) : WP l B Z n0 Q h cs sl pc ls (.int y :: .int x :: st) := by
  subst hp; exact WP.step (fun p e s m args below meth c T L C X hT target k => XS.iadd X.here C.1 rfl (hb C.2.2.2.1 hd) rfl k) H
theorem WP.isub {x : Int32} {y : Int32} (hd : decode B.bytes pc = .ok (.isub, 1)) (hp : pc + 1 = pc') (H : WP l B Z n0 Q h cs sl pc' ls (.int (x - y) :: st)) : WP l B Z n0 Q h cs sl pc ls (.int y :: .int x :: st) := by
  subst hp; exact WP.step (fun p e s m args below meth c T L C X hT target k => XS.isub X.here C.1 rfl (hb C.2.2.2.1 hd) rfl k) H
theorem WP.imul {x : Int32} {y : Int32} (hd : decode B.bytes pc = .ok (.imul, 1)) (hp : pc + 1 = pc') (H : WP l B Z n0 Q h cs sl pc' ls (.int (x * y) :: st)) : WP l B Z n0 Q h cs sl pc ls (.int y :: .int x :: st) := by
  subst hp; exact WP.step (fun p e s m args below meth c T L C X hT target k => XS.imul X.here C.1 rfl (hb C.2.2.2.1 hd) rfl k) H
theorem WP.iand {x : Int32} {y : Int32} (hd : decode B.bytes pc = .ok (.iand, 1)) (hp : pc + 1 = pc') (H : WP l B Z n0 Q h cs sl pc' ls (.int (x &&& y) :: st)) : WP l B Z n0 Q h cs sl pc ls (.int y :: .int x :: st) := by
  subst hp; exact WP.step (fun p e s m args below meth c T L C X hT target k => XS.iand X.here C.1 rfl (hb C.2.2.2.1 hd) rfl k) H
theorem WP.ior {x : Int32} {y : Int32} (hd : decode B.bytes pc = .ok (.ior, 1)) (hp : pc + 1 = pc') (H : WP l B Z n0 Q h cs sl pc' ls (.int (x ||| y) :: st)) : WP l B Z n0 Q h cs sl pc ls (.int y :: .int x :: st) := by
  subst hp; exact WP.step (fun p e s m args below meth c T L C X hT target k => XS.ior X.here C.1 rfl (hb C.2.2.2.1 hd) rfl k) H
theorem WP.ixor {x : Int32} {y : Int32} (hd : decode B.bytes pc = .ok (.ixor, 1)) (hp : pc + 1 = pc') (H : WP l B Z n0 Q h cs sl pc' ls (.int (x ^^^ y) :: st)) : WP l B Z n0 Q h cs sl pc ls (.int y :: .int x :: st) := by
  subst hp; exact WP.step (fun p e s m args below meth c T L C X hT target k => XS.ixor X.here C.1 rfl (hb C.2.2.2.1 hd) rfl k) H
theorem WP.ladd {x : Int64} {y : Int64} (hd : decode B.bytes pc = .ok (.ladd, 1)) (hp : pc + 1 = pc') (H : WP l B Z n0 Q h cs sl pc' ls (.long (x + y) :: st)) : WP l B Z n0 Q h cs sl pc ls (.long y :: .long x :: st) := by
  subst hp; exact WP.step (fun p e s m args below meth c T L C X hT target k => XS.ladd X.here C.1 rfl (hb C.2.2.2.1 hd) rfl k) H
theorem WP.lsub {x : Int64} {y : Int64} (hd : decode B.bytes pc = .ok (.lsub, 1)) (hp : pc + 1 = pc') (H : WP l B Z n0 Q h cs sl pc' ls (.long (x - y) :: st)) : WP l B Z n0 Q h cs sl pc ls (.long y :: .long x :: st) := by
  subst hp; exact WP.step (fun p e s m args below meth c T L C X hT target k => XS.lsub X.here C.1 rfl (hb C.2.2.2.1 hd) rfl k) H
theorem WP.lmul {x : Int64} {y : Int64} (hd : decode B.bytes pc = .ok (.lmul, 1)) (hp : pc + 1 = pc') (H : WP l B Z n0 Q h cs sl pc' ls (.long (x * y) :: st)) : WP l B Z n0 Q h cs sl pc ls (.long y :: .long x :: st) := by
  subst hp; exact WP.step (fun p e s m args below meth c T L C X hT target k => XS.lmul X.here C.1 rfl (hb C.2.2.2.1 hd) rfl k) H
theorem WP.land {x : Int64} {y : Int64} (hd : decode B.bytes pc = .ok (.land, 1)) (hp : pc + 1 = pc') (H : WP l B Z n0 Q h cs sl pc' ls (.long (x &&& y) :: st)) : WP l B Z n0 Q h cs sl pc ls (.long y :: .long x :: st) := by
  subst hp; exact WP.step (fun p e s m args below meth c T L C X hT target k => XS.land X.here C.1 rfl (hb C.2.2.2.1 hd) rfl k) H
theorem WP.lor {x : Int64} {y : Int64} (hd : decode B.bytes pc = .ok (.lor, 1)) (hp : pc + 1 = pc') (H : WP l B Z n0 Q h cs sl pc' ls (.long (x ||| y) :: st)) : WP l B Z n0 Q h cs sl pc ls (.long y :: .long x :: st) := by
  subst hp; exact WP.step (fun p e s m args below meth c T L C X hT target k => XS.lor X.here C.1 rfl (hb C.2.2.2.1 hd) rfl k) H
theorem WP.lxor {x : Int64} {y : Int64} (hd : decode B.bytes pc = .ok (.lxor, 1)) (hp : pc + 1 = pc') (H : WP l B Z n0 Q h cs sl pc' ls (.long (x ^^^ y) :: st)) : WP l B Z n0 Q h cs sl pc ls (.long y :: .long x :: st) := by
  subst hp; exact WP.step (fun p e s m args below meth c T L C X hT target k => XS.lxor X.here C.1 rfl (hb C.2.2.2.1 hd) rfl k) H
theorem WP.ishl {x : Int32} {y : Int32} (hd : decode B.bytes pc = .ok (.ishl, 1)) (hp : pc + 1 = pc') (H : WP l B Z n0 Q h cs sl pc' ls (.int (x <<< (y &&& 31)) :: st)) : WP l B Z n0 Q h cs sl pc ls (.int y :: .int x :: st) := by
  subst hp; exact WP.step (fun p e s m args below meth c T L C X hT target k => XS.ishl X.here C.1 rfl (hb C.2.2.2.1 hd) rfl k) H
theorem WP.ishr {x : Int32} {y : Int32} (hd : decode B.bytes pc = .ok (.ishr, 1)) (hp : pc + 1 = pc') (H : WP l B Z n0 Q h cs sl pc' ls (.int (x >>> (y &&& 31)) :: st)) : WP l B Z n0 Q h cs sl pc ls (.int y :: .int x :: st) := by
  subst hp; exact WP.step (fun p e s m args below meth c T L C X hT target k => XS.ishr X.here C.1 rfl (hb C.2.2.2.1 hd) rfl k) H
theorem WP.iushr {x : Int32} {y : Int32} (hd : decode B.bytes pc = .ok (.iushr, 1)) (hp : pc + 1 = pc') (H : WP l B Z n0 Q h cs sl pc' ls (.int (ushr x y) :: st)) : WP l B Z n0 Q h cs sl pc ls (.int y :: .int x :: st) := by
  subst hp; exact WP.step (fun p e s m args below meth c T L C X hT target k => XS.iushr X.here C.1 rfl (hb C.2.2.2.1 hd) rfl k) H
theorem WP.lshl {x : Int64} {y : Int32} (hd : decode B.bytes pc = .ok (.lshl, 1)) (hp : pc + 1 = pc') (H : WP l B Z n0 Q h cs sl pc' ls (.long (x <<< (y &&& 63).toInt64) :: st)) : WP l B Z n0 Q h cs sl pc ls (.int y :: .long x :: st) := by
  subst hp; exact WP.step (fun p e s m args below meth c T L C X hT target k => XS.lshl X.here C.1 rfl (hb C.2.2.2.1 hd) rfl k) H
theorem WP.lshr {x : Int64} {y : Int32} (hd : decode B.bytes pc = .ok (.lshr, 1)) (hp : pc + 1 = pc') (H : WP l B Z n0 Q h cs sl pc' ls (.long (x >>> (y &&& 63).toInt64) :: st)) : WP l B Z n0 Q h cs sl pc ls (.int y :: .long x :: st) := by
  subst hp; exact WP.step (fun p e s m args below meth c T L C X hT target k => XS.lshr X.here C.1 rfl (hb C.2.2.2.1 hd) rfl k) H
theorem WP.lushr {x : Int64} {y : Int32} (hd : decode B.bytes pc = .ok (.lushr, 1)) (hp : pc + 1 = pc') (H : WP l B Z n0 Q h cs sl pc' ls (.long (ushrL x y) :: st)) : WP l B Z n0 Q h cs sl pc ls (.int y :: .long x :: st) := by
  subst hp; exact WP.step (fun p e s m args below meth c T L C X hT target k => XS.lushr X.here C.1 rfl (hb C.2.2.2.1 hd) rfl k) H
theorem WP.ineg {x : Int32}  (hd : decode B.bytes pc = .ok (.ineg, 1)) (hp : pc + 1 = pc') (H : WP l B Z n0 Q h cs sl pc' ls (.int (-x) :: st)) : WP l B Z n0 Q h cs sl pc ls (.int x :: st) := by
  subst hp; exact WP.step (fun p e s m args below meth c T L C X hT target k => XS.ineg X.here C.1 rfl (hb C.2.2.2.1 hd) rfl k) H
theorem WP.lneg {x : Int64}  (hd : decode B.bytes pc = .ok (.lneg, 1)) (hp : pc + 1 = pc') (H : WP l B Z n0 Q h cs sl pc' ls (.long (-x) :: st)) : WP l B Z n0 Q h cs sl pc ls (.long x :: st) := by
  subst hp; exact WP.step (fun p e s m args below meth c T L C X hT target k => XS.lneg X.here C.1 rfl (hb C.2.2.2.1 hd) rfl k) H
theorem WP.i2l {x : Int32}  (hd : decode B.bytes pc = .ok (.i2l, 1)) (hp : pc + 1 = pc') (H : WP l B Z n0 Q h cs sl pc' ls (.long x.toInt64 :: st)) : WP l B Z n0 Q h cs sl pc ls (.int x :: st) := by
  subst hp; exact WP.step (fun p e s m args below meth c T L C X hT target k => XS.i2l X.here C.1 rfl (hb C.2.2.2.1 hd) rfl k) H
theorem WP.l2i {x : Int64}  (hd : decode B.bytes pc = .ok (.l2i, 1)) (hp : pc + 1 = pc') (H : WP l B Z n0 Q h cs sl pc' ls (.int x.toInt32 :: st)) : WP l B Z n0 Q h cs sl pc ls (.long x :: st) := by
  subst hp; exact WP.step (fun p e s m args below meth c T L C X hT target k => XS.l2i X.here C.1 rfl (hb C.2.2.2.1 hd) rfl k) H
theorem WP.i2b {x : Int32}  (hd : decode B.bytes pc = .ok (.i2b, 1)) (hp : pc + 1 = pc') (H : WP l B Z n0 Q h cs sl pc' ls (.int x.toInt8.toInt32 :: st)) : WP l B Z n0 Q h cs sl pc ls (.int x :: st) := by
  subst hp; exact WP.step (fun p e s m args below meth c T L C X hT target k => XS.i2b X.here C.1 rfl (hb C.2.2.2.1 hd) rfl k) H
theorem WP.i2s {x : Int32}  (hd : decode B.bytes pc = .ok (.i2s, 1)) (hp : pc + 1 = pc') (H : WP l B Z n0 Q h cs sl pc' ls (.int x.toInt16.toInt32 :: st)) : WP l B Z n0 Q h cs sl pc ls (.int x :: st) := by
  subst hp; exact WP.step (fun p e s m args below meth c T L C X hT target k => XS.i2s X.here C.1 rfl (hb C.2.2.2.1 hd) rfl k) H
theorem WP.i2c {x : Int32}  (hd : decode B.bytes pc = .ok (.i2c, 1)) (hp : pc + 1 = pc') (H : WP l B Z n0 Q h cs sl pc' ls (.int x.toUInt32.toUInt16.toUInt32.toInt32 :: st)) : WP l B Z n0 Q h cs sl pc ls (.int x :: st) := by
  subst hp; exact WP.step (fun p e s m args below meth c T L C X hT target k => XS.i2c X.here C.1 rfl (hb C.2.2.2.1 hd) rfl k) H
/-! division (never by zero here), branches -/
theorem WP.irem {x y : Int32} (hd : decode B.bytes pc = .ok (.irem, 1)) (hy : y ≠ 0) (hp : pc + 1 = pc') (H : WP l B Z n0 Q h cs sl pc' ls (.int (x % y) :: st)) : WP l B Z n0 Q h cs sl pc ls (.int y :: .int x :: st) := by
  subst hp; exact WP.step (fun p e s m args below meth c T L C X hT target k => iremM X C.1 rfl (hb C.2.2.2.1 hd) rfl hy k) H
theorem WP.idiv {x y : Int32} (hd : decode B.bytes pc = .ok (.idiv, 1)) (hy : y ≠ 0) (hp : pc + 1 = pc') (H : WP l B Z n0 Q h cs sl pc' ls (.int (x / y) :: st)) : WP l B Z n0 Q h cs sl pc ls (.int y :: .int x :: st) := by
  subst hp; exact WP.step (fun p e s m args below meth c T L C X hT target k => XS.idiv X.here C.1 rfl (hb C.2.2.2.1 hd) rfl hy k) H
theorem WP.lrem {x y : Int64} (hd : decode B.bytes pc = .ok (.lrem, 1)) (hy : y ≠ 0) (hp : pc + 1 = pc') (H : WP l B Z n0 Q h cs sl pc' ls (.long (x - x / y * y) :: st)) : WP l B Z n0 Q h cs sl pc ls (.long y :: .long x :: st) := by
  subst hp; exact WP.step (fun p e s m args below meth c T L C X hT target k => XS.lrem X.here C.1 rfl (hb C.2.2.2.1 hd) rfl hy k) H
theorem WP.goto {o : Int} (hd : decode B.bytes pc = .ok (.goto o, 3)) (ht : (pc : Int) + o = (pc' : Int)) (H : WP l B Z n0 Q h cs sl pc' ls st) : WP l B Z n0 Q h cs sl pc ls st :=
  WP.step (fun p e s m args below meth c T L C X hT target k => XS.goto X.here C.1 rfl (pc0 := pc) (pc' := pc') rfl (hb C.2.2.2.1 hd) (by omega) (by omega) k) H
theorem own_holds (cd : ClassFile.Cond) (x y : Int32) : if_icmp.holds cd x y = match cd with | .eq => decide (x.toInt = y.toInt) | .ne => decide (x.toInt ≠ y.toInt) | .lt => decide (x.toInt < y.toInt) | .ge => decide (y.toInt ≤ x.toInt) | .gt => decide (y.toInt < x.toInt) | .le => decide (x.toInt ≤ y.toInt) := by
  have q : x = y ↔ x.toInt = y.toInt := ⟨fun h => by rw [h], Int32.toInt_inj.mp⟩
  by_cases e : x = y
  · subst e
    cases cd <;> simp [if_icmp.holds]
  · have e' : ¬ x.toInt = y.toInt := fun h => e (q.mpr h)
    cases cd <;> simp [if_icmp.holds, e, e', Int32.lt_iff_toInt_lt, Int32.le_iff_toInt_le]
theorem own_cmpL (cd : ClassFile.Cond) (x y : Int64) : if_icmp.holds cd (cmpL x y) 0 = match cd with | .eq => decide (x.toInt = y.toInt) | .ne => decide (x.toInt ≠ y.toInt) | .lt => decide (x.toInt < y.toInt) | .ge => decide (y.toInt ≤ x.toInt) | .gt => decide (y.toInt < x.toInt) | .le => decide (x.toInt ≤ y.toInt) := by
  have q : x = y ↔ x.toInt = y.toInt := ⟨fun h => by rw [h], Int64.toInt_inj.mp⟩
  rw [own_holds]
  simp only [cmpL, GT.gt, Int64.lt_iff_toInt_lt, q]
  have e1 : (1 : Int32).toInt = 1 := rfl
  have e0 : (0 : Int32).toInt = 0 := rfl
  have em : (-1 : Int32).toInt = -1 := rfl
  by_cases c1 : y.toInt < x.toInt
  · simp only [c1, if_true, e1, e0]
    cases cd <;> simp <;> omega
  · by_cases c2 : x.toInt = y.toInt
    · simp only [c2, Int.lt_irrefl, if_false, if_true, e0]
      cases cd <;> simp
    · simp only [c1, c2, if_false, em, e0]
      cases cd <;> simp <;> omega
theorem WP.icmp {cd : ClassFile.Cond} {x y : Int32} {o : Int} {tgt : Nat} (hd : decode B.bytes pc = .ok (.if_icmp cd o, 3)) (ht : (pc : Int) + o = (tgt : Int)) (hp : pc + 3 = pc') (HY : if_icmp.holds cd x y = true → WP l B Z n0 Q h cs sl tgt ls st) (HN : if_icmp.holds cd x y = false → WP l B Z n0 Q h cs sl pc' ls st) : WP l B Z n0 Q h cs sl pc ls (.int y :: .int x :: st) := by
  subst hp
  cases hc : if_icmp.holds cd x y
  · exact WP.step (fun p e s m args below meth c T L C X hT target k => XS.icmpNo X.here C.1 rfl (hb C.2.2.2.1 hd) rfl hc k) (HN hc)
  · exact WP.step (fun p e s m args below meth c T L C X hT target k => XS.icmpYes X.here C.1 rfl (pc0 := pc) (pc' := tgt) rfl (hb C.2.2.2.1 hd) rfl hc (by omega) (by omega) k) (HY hc)
theorem WP.ifc {cd : ClassFile.Cond} {x : Int32} {o : Int} {tgt : Nat} (hd : decode B.bytes pc = .ok (.ifCond cd o, 3)) (ht : (pc : Int) + o = (tgt : Int)) (hp : pc + 3 = pc') (HY : if_icmp.holds cd x 0 = true → WP l B Z n0 Q h cs sl tgt ls st) (HN : if_icmp.holds cd x 0 = false → WP l B Z n0 Q h cs sl pc' ls st) : WP l B Z n0 Q h cs sl pc ls (.int x :: st) := by
  subst hp
  cases hc : if_icmp.holds cd x 0
  · exact WP.step (fun p e s m args below meth c T L C X hT target k => XS.ifNo X.here C.1 rfl (hb C.2.2.2.1 hd) rfl ((if0 _ _).trans hc) k) (HN hc)
  · exact WP.step (fun p e s m args below meth c T L C X hT target k => XS.ifYes X.here C.1 rfl (pc0 := pc) (pc' := tgt) rfl (hb C.2.2.2.1 hd) rfl ((if0 _ _).trans hc) (by omega) (by omega) k) (HY hc)
theorem WP.lcmp {x y : Int64} (hd : decode B.bytes pc = .ok (.lcmp, 1)) (hp : pc + 1 = pc') (H : WP l B Z n0 Q h cs sl pc' ls (.int (cmpL x y) :: st)) : WP l B Z n0 Q h cs sl pc ls (.long y :: .long x :: st) := by
  subst hp; exact WP.step (fun p e s m args below meth c T L C X hT target k => XS.lcmp X.here C.1 rfl (hb C.2.2.2.1 hd) rfl k) H
theorem WP.icmpEq {x y : Int32} {o : Int} {tgt : Nat} (hd : decode B.bytes pc = .ok (.if_icmp .eq o, 3)) (ht : (pc : Int) + o = (tgt : Int)) (hp : pc + 3 = pc') (HY : x.toInt = y.toInt → WP l B Z n0 Q h cs sl tgt ls st) (HN : x.toInt ≠ y.toInt → WP l B Z n0 Q h cs sl pc' ls st) : WP l B Z n0 Q h cs sl pc ls (.int y :: .int x :: st) :=
  WP.icmp hd ht hp (fun q => HY (by rw [own_holds] at q; simpa using q)) (fun q => HN (by rw [own_holds] at q; simpa using q))
theorem WP.ifEq {x : Int32} {o : Int} {tgt : Nat} (hd : decode B.bytes pc = .ok (.ifCond .eq o, 3)) (ht : (pc : Int) + o = (tgt : Int)) (hp : pc + 3 = pc') (HY : x.toInt = 0 → WP l B Z n0 Q h cs sl tgt ls st) (HN : x.toInt ≠ 0 → WP l B Z n0 Q h cs sl pc' ls st) : WP l B Z n0 Q h cs sl pc ls (.int x :: st) :=
  WP.ifc hd ht hp (fun q => HY (by rw [own_holds] at q; simpa using q)) (fun q => HN (by rw [own_holds] at q; simpa using q))
theorem WP.lcmpEq {x y : Int64} {o : Int} {tgt pc1 : Nat} (hd : decode B.bytes pc = .ok (.lcmp, 1)) (h1 : pc + 1 = pc1) (hd1 : decode B.bytes pc1 = .ok (.ifCond .eq o, 3)) (ht : (pc1 : Int) + o = (tgt : Int)) (hp : pc1 + 3 = pc') (HY : x.toInt = y.toInt → WP l B Z n0 Q h cs sl tgt ls st) (HN : x.toInt ≠ y.toInt → WP l B Z n0 Q h cs sl pc' ls st) : WP l B Z n0 Q h cs sl pc ls (.long y :: .long x :: st) :=
  WP.lcmp hd h1 (WP.ifc hd1 ht hp (fun q => HY (by rw [own_cmpL] at q; simpa using q)) (fun q => HN (by rw [own_cmpL] at q; simpa using q)))
theorem WP.icmpNe {x y : Int32} {o : Int} {tgt : Nat} (hd : decode B.bytes pc = .ok (.if_icmp .ne o, 3)) (ht : (pc : Int) + o = (tgt : Int)) (hp : pc + 3 = pc') (HY : x.toInt ≠ y.toInt → WP l B Z n0 Q h cs sl tgt ls st) (HN : x.toInt = y.toInt → WP l B Z n0 Q h cs sl pc' ls st) : WP l B Z n0 Q h cs sl pc ls (.int y :: .int x :: st) :=
  WP.icmp hd ht hp (fun q => HY (by rw [own_holds] at q; simpa using q)) (fun q => HN (by rw [own_holds] at q; simpa using q))
theorem WP.ifNe {x : Int32} {o : Int} {tgt : Nat} (hd : decode B.bytes pc = .ok (.ifCond .ne o, 3)) (ht : (pc : Int) + o = (tgt : Int)) (hp : pc + 3 = pc') (HY : x.toInt ≠ 0 → WP l B Z n0 Q h cs sl tgt ls st) (HN : x.toInt = 0 → WP l B Z n0 Q h cs sl pc' ls st) : WP l B Z n0 Q h cs sl pc ls (.int x :: st) :=
  WP.ifc hd ht hp (fun q => HY (by rw [own_holds] at q; simpa using q)) (fun q => HN (by rw [own_holds] at q; simpa using q))
theorem WP.lcmpNe {x y : Int64} {o : Int} {tgt pc1 : Nat} (hd : decode B.bytes pc = .ok (.lcmp, 1)) (h1 : pc + 1 = pc1) (hd1 : decode B.bytes pc1 = .ok (.ifCond .ne o, 3)) (ht : (pc1 : Int) + o = (tgt : Int)) (hp : pc1 + 3 = pc') (HY : x.toInt ≠ y.toInt → WP l B Z n0 Q h cs sl tgt ls st) (HN : x.toInt = y.toInt → WP l B Z n0 Q h cs sl pc' ls st) : WP l B Z n0 Q h cs sl pc ls (.long y :: .long x :: st) :=
  WP.lcmp hd h1 (WP.ifc hd1 ht hp (fun q => HY (by rw [own_cmpL] at q; simpa using q)) (fun q => HN (by rw [own_cmpL] at q; simpa using q)))
theorem WP.icmpLt {x y : Int32} {o : Int} {tgt : Nat} (hd : decode B.bytes pc = .ok (.if_icmp .lt o, 3)) (ht : (pc : Int) + o = (tgt : Int)) (hp : pc + 3 = pc') (HY : x.toInt < y.toInt → WP l B Z n0 Q h cs sl tgt ls st) (HN : y.toInt ≤ x.toInt → WP l B Z n0 Q h cs sl pc' ls st) : WP l B Z n0 Q h cs sl pc ls (.int y :: .int x :: st) :=
  WP.icmp hd ht hp (fun q => HY (by rw [own_holds] at q; simpa using q)) (fun q => HN (by rw [own_holds] at q; simpa using q))
theorem WP.ifLt {x : Int32} {o : Int} {tgt : Nat} (hd : decode B.bytes pc = .ok (.ifCond .lt o, 3)) (ht : (pc : Int) + o = (tgt : Int)) (hp : pc + 3 = pc') (HY : x.toInt < 0 → WP l B Z n0 Q h cs sl tgt ls st) (HN : 0 ≤ x.toInt → WP l B Z n0 Q h cs sl pc' ls st) : WP l B Z n0 Q h cs sl pc ls (.int x :: st) :=
  WP.ifc hd ht hp (fun q => HY (by rw [own_holds] at q; simpa using q)) (fun q => HN (by rw [own_holds] at q; simpa using q))
theorem WP.lcmpLt {x y : Int64} {o : Int} {tgt pc1 : Nat} (hd : decode B.bytes pc = .ok (.lcmp, 1)) (h1 : pc + 1 = pc1) (hd1 : decode B.bytes pc1 = .ok (.ifCond .lt o, 3)) (ht : (pc1 : Int) + o = (tgt : Int)) (hp : pc1 + 3 = pc') (HY : x.toInt < y.toInt → WP l B Z n0 Q h cs sl tgt ls st) (HN : y.toInt ≤ x.toInt → WP l B Z n0 Q h cs sl pc' ls st) : WP l B Z n0 Q h cs sl pc ls (.long y :: .long x :: st) :=
  WP.lcmp hd h1 (WP.ifc hd1 ht hp (fun q => HY (by rw [own_cmpL] at q; simpa using q)) (fun q => HN (by rw [own_cmpL] at q; simpa using q)))
theorem WP.icmpGe {x y : Int32} {o : Int} {tgt : Nat} (hd : decode B.bytes pc = .ok (.if_icmp .ge o, 3)) (ht : (pc : Int) + o = (tgt : Int)) (hp : pc + 3 = pc') (HY : y.toInt ≤ x.toInt → WP l B Z n0 Q h cs sl tgt ls st) (HN : x.toInt < y.toInt → WP l B Z n0 Q h cs sl pc' ls st) : WP l B Z n0 Q h cs sl pc ls (.int y :: .int x :: st) :=
  WP.icmp hd ht hp (fun q => HY (by rw [own_holds] at q; simpa using q)) (fun q => HN (by rw [own_holds] at q; simpa using q))
theorem WP.ifGe {x : Int32} {o : Int} {tgt : Nat} (hd : decode B.bytes pc = .ok (.ifCond .ge o, 3)) (ht : (pc : Int) + o = (tgt : Int)) (hp : pc + 3 = pc') (HY : 0 ≤ x.toInt → WP l B Z n0 Q h cs sl tgt ls st) (HN : x.toInt < 0 → WP l B Z n0 Q h cs sl pc' ls st) : WP l B Z n0 Q h cs sl pc ls (.int x :: st) :=
  WP.ifc hd ht hp (fun q => HY (by rw [own_holds] at q; simpa using q)) (fun q => HN (by rw [own_holds] at q; simpa using q))
theorem WP.lcmpGe {x y : Int64} {o : Int} {tgt pc1 : Nat} (hd : decode B.bytes pc = .ok (.lcmp, 1)) (h1 : pc + 1 = pc1) (hd1 : decode B.bytes pc1 = .ok (.ifCond .ge o, 3)) (ht : (pc1 : Int) + o = (tgt : Int)) (hp : pc1 + 3 = pc') (HY : y.toInt ≤ x.toInt → WP l B Z n0 Q h cs sl tgt ls st) (HN : x.toInt < y.toInt → WP l B Z n0 Q h cs sl pc' ls st) : WP l B Z n0 Q h cs sl pc ls (.long y :: .long x :: st) :=
  WP.lcmp hd h1 (WP.ifc hd1 ht hp (fun q => HY (by rw [own_cmpL] at q; simpa using q)) (fun q => HN (by rw [own_cmpL] at q; simpa using q)))
theorem WP.icmpGt {x y : Int32} {o : Int} {tgt : Nat} (hd : decode B.bytes pc = .ok (.if_icmp .gt o, 3)) (ht : (pc : Int) + o = (tgt : Int)) (hp : pc + 3 = pc') (HY : y.toInt < x.toInt → WP l B Z n0 Q h cs sl tgt ls st) (HN : x.toInt ≤ y.toInt → WP l B Z n0 Q h cs sl pc' ls st) : WP l B Z n0 Q h cs sl pc ls (.int y :: .int x :: st) :=
  WP.icmp hd ht hp (fun q => HY (by rw [own_holds] at q; simpa using q)) (fun q => HN (by rw [own_holds] at q; simpa using q))
theorem WP.ifGt {x : Int32} {o : Int} {tgt : Nat} (hd : decode B.bytes pc = .ok (.ifCond .gt o, 3)) (ht : (pc : Int) + o = (tgt : Int)) (hp : pc + 3 = pc') (HY : 0 < x.toInt → WP l B Z n0 Q h cs sl tgt ls st) (HN : x.toInt ≤ 0 → WP l B Z n0 Q h cs sl pc' ls st) : WP l B Z n0 Q h cs sl pc ls (.int x :: st) :=
  WP.ifc hd ht hp (fun q => HY (by rw [own_holds] at q; simpa using q)) (fun q => HN (by rw [own_holds] at q; simpa using q))
theorem WP.lcmpGt {x y : Int64} {o : Int} {tgt pc1 : Nat} (hd : decode B.bytes pc = .ok (.lcmp, 1)) (h1 : pc + 1 = pc1) (hd1 : decode B.bytes pc1 = .ok (.ifCond .gt o, 3)) (ht : (pc1 : Int) + o = (tgt : Int)) (hp : pc1 + 3 = pc') (HY : y.toInt < x.toInt → WP l B Z n0 Q h cs sl tgt ls st) (HN : x.toInt ≤ y.toInt → WP l B Z n0 Q h cs sl pc' ls st) : WP l B Z n0 Q h cs sl pc ls (.long y :: .long x :: st) :=
  WP.lcmp hd h1 (WP.ifc hd1 ht hp (fun q => HY (by rw [own_cmpL] at q; simpa using q)) (fun q => HN (by rw [own_cmpL] at q; simpa using q)))
theorem WP.icmpLe {x y : Int32} {o : Int} {tgt : Nat} (hd : decode B.bytes pc = .ok (.if_icmp .le o, 3)) (ht : (pc : Int) + o = (tgt : Int)) (hp : pc + 3 = pc') (HY : x.toInt ≤ y.toInt → WP l B Z n0 Q h cs sl tgt ls st) (HN : y.toInt < x.toInt → WP l B Z n0 Q h cs sl pc' ls st) : WP l B Z n0 Q h cs sl pc ls (.int y :: .int x :: st) :=
  WP.icmp hd ht hp (fun q => HY (by rw [own_holds] at q; simpa using q)) (fun q => HN (by rw [own_holds] at q; simpa using q))
theorem WP.ifLe {x : Int32} {o : Int} {tgt : Nat} (hd : decode B.bytes pc = .ok (.ifCond .le o, 3)) (ht : (pc : Int) + o = (tgt : Int)) (hp : pc + 3 = pc') (HY : x.toInt ≤ 0 → WP l B Z n0 Q h cs sl tgt ls st) (HN : 0 < x.toInt → WP l B Z n0 Q h cs sl pc' ls st) : WP l B Z n0 Q h cs sl pc ls (.int x :: st) :=
  WP.ifc hd ht hp (fun q => HY (by rw [own_holds] at q; simpa using q)) (fun q => HN (by rw [own_holds] at q; simpa using q))
theorem WP.lcmpLe {x y : Int64} {o : Int} {tgt pc1 : Nat} (hd : decode B.bytes pc = .ok (.lcmp, 1)) (h1 : pc + 1 = pc1) (hd1 : decode B.bytes pc1 = .ok (.ifCond .le o, 3)) (ht : (pc1 : Int) + o = (tgt : Int)) (hp : pc1 + 3 = pc') (HY : x.toInt ≤ y.toInt → WP l B Z n0 Q h cs sl tgt ls st) (HN : y.toInt < x.toInt → WP l B Z n0 Q h cs sl pc' ls st) : WP l B Z n0 Q h cs sl pc ls (.long y :: .long x :: st) :=
  WP.lcmp hd h1 (WP.ifc hd1 ht hp (fun q => HY (by rw [own_cmpL] at q; simpa using q)) (fun q => HN (by rw [own_cmpL] at q; simpa using q)))
theorem WP.ifnullY {o : Int} (hd : decode B.bytes pc = .ok (.ifnull o, 3)) (ht : (pc : Int) + o = (pc' : Int)) (H : WP l B Z n0 Q h cs sl pc' ls st) : WP l B Z n0 Q h cs sl pc ls (.null :: st) :=
  WP.step (fun p e s m args below meth c T L C X hT target k => XS.ifnullYes X.here C.1 rfl (pc0 := pc) (pc' := pc') rfl (hb C.2.2.2.1 hd) rfl (by omega) (by omega) k) H
theorem WP.ifnullN {o : Int} {a : Addr} (hd : decode B.bytes pc = .ok (.ifnull o, 3)) (hp : pc + 3 = pc') (H : WP l B Z n0 Q h cs sl pc' ls st) : WP l B Z n0 Q h cs sl pc ls (.ref a :: st) := by
  subst hp; exact WP.step (fun p e s m args below meth c T L C X hT target k => XS.ifnullNo X.here C.1 rfl (hb C.2.2.2.1 hd) rfl k) H
theorem WP.ifnonnullN {o : Int} (hd : decode B.bytes pc = .ok (.ifnonnull o, 3)) (hp : pc + 3 = pc') (H : WP l B Z n0 Q h cs sl pc' ls st) : WP l B Z n0 Q h cs sl pc ls (.null :: st) := by
  subst hp; exact WP.step (fun p e s m args below meth c T L C X hT target k => XS.ifnonnullNo X.here C.1 rfl (hb C.2.2.2.1 hd) rfl k) H
theorem WP.ifnonnullY {o : Int} {a : Addr} (hd : decode B.bytes pc = .ok (.ifnonnull o, 3)) (ht : (pc : Int) + o = (pc' : Int)) (H : WP l B Z n0 Q h cs sl pc' ls st) : WP l B Z n0 Q h cs sl pc ls (.ref a :: st) :=
  WP.step (fun p e s m args below meth c T L C X hT target k => XS.ifnonnullYes X.here C.1 rfl (pc0 := pc) (pc' := pc') rfl (hb C.2.2.2.1 hd) rfl (by omega) (by omega) k) H
theorem WP.acmpEq {x y : Value} {o : Int} {tgt : Nat} (hd : decode B.bytes pc = .ok (.if_acmp .eq o, 3)) (ht : (pc : Int) + o = (tgt : Int)) (hp : pc + 3 = pc') (h1 : x.isRef = true) (h2 : y.isRef = true) (HY : x = y → WP l B Z n0 Q h cs sl tgt ls st) (HN : x ≠ y → WP l B Z n0 Q h cs sl pc' ls st) : WP l B Z n0 Q h cs sl pc ls (y :: x :: st) := by
  subst hp
  have e1 : ((pc : Int) + o).toNat = tgt := by omega
  by_cases q : x = y
  · exact WP.step (fun p e s m args below meth c T L C X hT target k => Jvm.RoadKit.acmp (g := mkF m pc ls (y :: x :: st)) X C.1 rfl h1 h2 (pc0 := pc) (pc' := tgt) (same := true) rfl (hb C.2.2.2.1 hd) rfl (by simp [q]) (by omega) (by simp [acV, e1]) k) (HY q)
  · exact WP.step (fun p e s m args below meth c T L C X hT target k => Jvm.RoadKit.acmp (g := mkF m pc ls (y :: x :: st)) X C.1 rfl h1 h2 (pc0 := pc) (pc' := pc + 3) (same := false) rfl (hb C.2.2.2.1 hd) rfl (by simp [q]) (by omega) (by simp [acV]) k) (HN q)
theorem WP.acmpNe {x y : Value} {o : Int} {tgt : Nat} (hd : decode B.bytes pc = .ok (.if_acmp .ne o, 3)) (ht : (pc : Int) + o = (tgt : Int)) (hp : pc + 3 = pc') (h1 : x.isRef = true) (h2 : y.isRef = true) (HY : x ≠ y → WP l B Z n0 Q h cs sl tgt ls st) (HN : x = y → WP l B Z n0 Q h cs sl pc' ls st) : WP l B Z n0 Q h cs sl pc ls (y :: x :: st) := by
  subst hp
  have e1 : ((pc : Int) + o).toNat = tgt := by omega
  by_cases q : x = y
  · exact WP.step (fun p e s m args below meth c T L C X hT target k => Jvm.RoadKit.acmp (g := mkF m pc ls (y :: x :: st)) X C.1 rfl h1 h2 (pc0 := pc) (pc' := pc + 3) (same := true) rfl (hb C.2.2.2.1 hd) rfl (by simp [q]) (by omega) (by simp [acV]) k) (HN q)
  · exact WP.step (fun p e s m args below meth c T L C X hT target k => Jvm.RoadKit.acmp (g := mkF m pc ls (y :: x :: st)) X C.1 rfl h1 h2 (pc0 := pc) (pc' := tgt) (same := false) rfl (hb C.2.2.2.1 hd) rfl (by simp [q]) (by omega) (by simp [acV, e1]) k) (HY q)
/-! returns -/
theorem WP.ret0 (hd : decode B.bytes pc = .ok (.return_, 1)) (hr : B.ret = none) (hc : cs ≤ B.room.cells) (hs : sl ≤ B.room.slots) (hQ : Q none h) : WP l B Z n0 Q h cs sl pc ls [] := by
  intro p e s m args below meth c T L C X hT N hn
  obtain ⟨hx, hZ, hown, hby, hml, hret, hlk, hnm⟩ := C
  obtain ⟨fs, hrr, hrun, hended, hW, hsame⟩ := X.leave (v := none) (fun _ => rfl) hlk
  have hh : (T.setFrames fs).heap = h := hT
  exact ⟨T.setFrames fs, none, L, X.returnOut hx (hret.trans hr) (hb hby hd) hrr, hrun, hended, by rw [hh]; exact hQ, N, by rw [hh]; exact hn, ⟨_, rfl⟩, hW, hsame.mono hc hs⟩
theorem WP.retI {z : Int32} (hd : decode B.bytes pc = .ok (.ireturn, 1)) (hr : B.ret = some .int) (hc : cs ≤ B.room.cells) (hs : sl ≤ B.room.slots) (hQ : Q (some (.int z)) h) : WP l B Z n0 Q h cs sl pc ls (.int z :: st) := by
  intro p e s m args below meth c T L C X hT N hn
  obtain ⟨hx, hZ, hown, hby, hml, hret, hlk, hnm⟩ := C
  obtain ⟨fs, hrr, hrun, hended, hW, hsame⟩ := X.leave (v := some (.int z)) (fun q => by rw [hret, hr] at q; cases q) hlk
  have hh : (T.setFrames fs).heap = h := hT
  exact ⟨T.setFrames fs, _, L, retOut X hx (hret.trans hr) rfl (Or.inl ⟨rfl, Or.inl rfl, z, rfl⟩) (hb hby hd) hrr, hrun, hended, by rw [hh]; exact hQ, N, by rw [hh]; exact hn, ⟨_, rfl⟩, hW, hsame.mono hc hs⟩
theorem WP.retN {z : Int32} {t : FieldType} (hd : decode B.bytes pc = .ok (.ireturn, 1)) (hr : B.ret = some t) (ht : t = .boolean ∨ t = .byte ∨ t = .char ∨ t = .short) (hc : cs ≤ B.room.cells) (hs : sl ≤ B.room.slots) (hQ : Q (some (.int (nar t z))) h) : WP l B Z n0 Q h cs sl pc ls (.int z :: st) := by
  intro p e s m args below meth c T L C X hT N hn
  obtain ⟨hx, hZ, hown, hby, hml, hret, hlk, hnm⟩ := C
  obtain ⟨fs, hrr, hrun, hended, hW, hsame⟩ := X.leave (v := some (.int (nar t z))) (fun q => by rw [hret, hr] at q; cases q) hlk
  have hh : (T.setFrames fs).heap = h := hT
  exact ⟨T.setFrames fs, _, L, Jvm.RoadKit.retN X hx (hret.trans hr) ht (hb hby hd) hrr, hrun, hended, by rw [hh]; exact hQ, N, by rw [hh]; exact hn, ⟨_, rfl⟩, hW, hsame.mono hc hs⟩
theorem WP.retJ {z : Int64} (hd : decode B.bytes pc = .ok (.lreturn, 1)) (hr : B.ret = some .long) (hc : cs ≤ B.room.cells) (hs : sl ≤ B.room.slots) (hQ : Q (some (.long z)) h) : WP l B Z n0 Q h cs sl pc ls (.long z :: st) := by
  intro p e s m args below meth c T L C X hT N hn
  obtain ⟨hx, hZ, hown, hby, hml, hret, hlk, hnm⟩ := C
  obtain ⟨fs, hrr, hrun, hended, hW, hsame⟩ := X.leave (v := some (.long z)) (fun q => by rw [hret, hr] at q; cases q) hlk
  have hh : (T.setFrames fs).heap = h := hT
  exact ⟨T.setFrames fs, _, L, retOut X hx (hret.trans hr) rfl (Or.inr (Or.inl ⟨rfl, rfl, z, rfl⟩)) (hb hby hd) hrr, hrun, hended, by rw [hh]; exact hQ, N, by rw [hh]; exact hn, ⟨_, rfl⟩, hW, hsame.mono hc hs⟩
theorem WP.retA {z : Value} {t : FieldType} (hd : decode B.bytes pc = .ok (.areturn, 1)) (hr : B.ret = some t) (ht : t.isReference = true) (hz : z.isRef = true) (hc : cs ≤ B.room.cells) (hs : sl ≤ B.room.slots) (hQ : Q (some z) h) : WP l B Z n0 Q h cs sl pc ls (z :: st) := by
  intro p e s m args below meth c T L C X hT N hn
  obtain ⟨hx, hZ, hown, hby, hml, hret, hlk, hnm⟩ := C
  obtain ⟨fs, hrr, hrun, hended, hW, hsame⟩ := X.leave (v := some z) (fun q => by rw [hret, hr] at q; cases q) hlk
  have hh : (T.setFrames fs).heap = h := hT
  have hnw : narrow t z = z := by rcases ref_cases hz with rfl | ⟨a, rfl⟩ <;> cases t <;> rfl
  exact ⟨T.setFrames fs, _, L, retOut X hx (hret.trans hr) hnw (Or.inr (Or.inr (Or.inr (Or.inr ⟨rfl, ht, hz⟩)))) (hb hby hd) hrr, hrun, hended, by rw [hh]; exact hQ, N, by rw [hh]; exact hn, ⟨_, rfl⟩, hW, hsame.mono hc hs⟩
/-! calls -/
theorem WP.callS {y : MethodName} {By : Bod} {as : List Value} {idx : Nat} {Qy : Option Value → Heap → Prop} {ps : List FieldType} {r : Option FieldType}
    (hd : decode B.bytes pc = .ok (.invokestatic idx, 3)) (w1 : (Cond.methodLink B.own idx y).before a0 Z = true) (w2 : (Cond.static y).before a0 Z = true) (w3 : (Cond.initialized y.cls).before a0 Z = true) (w4 : (Cond.code y By.bytes By.maxL By.ret).before a0 Z = true)
    (hy : y.cls ≠ "java/lang/invoke/MethodHandle" ∧ y.cls ≠ "java/lang/invoke/VarHandle") (hM : OMet l y By Z n0 as.toArray h Qy) (hpd : parseMethodDescriptor y.desc = some ⟨ps, r⟩) (hlen : as.length = ps.length) (hst : st = as.reverse ++ rest) (hls : ls.size = B.maxL)
    (hfr : By.room.frames + 1 ≤ B.room.frames) (hlo : (rest.map fun v => v.category).sum + (By.maxL + 11) + By.room.locals ≤ B.room.locals) (hc : cs + By.room.cells ≤ B.room.cells) (hs : sl + By.room.slots ≤ B.room.slots) (hp : pc + 3 = pc')
    (H : ∀ v h', Qy v h' → WP l B Z n0 Q h' (cs + By.room.cells) (sl + By.room.slots) pc' ls (v.toList ++ rest)) : WP l B Z n0 Q h cs sl pc ls st := by
  subst hp
  intro p e s m args below meth c T L C X hT N hn
  obtain ⟨hx, hZ, hown, hby, hml, hret, hlk, hnm⟩ := C
  obtain ⟨v, _, ⟨T1, L1, k1, n1⟩, -, X1, ⟨Lc, hQ, l1, y1, z1⟩, stp⟩ := Jvm.LawKit.callS X hx hown (mvT hZ w1) (mvT hZ w2) (mvT hZ w3) (mvT hZ w4) hy (backOf (W := (rest.map fun v => v.category).sum) (Q := fun v h' L => Qy v h' ∧ Fr n0 L ∧ n0 ≤ h'.size) (hM hn []) hZ w4 w3 hfr hlo) (g := mkF m pc ls st) rfl (by rw [hml]; exact hls) (argsL := as) (rest := rest) (lenOf hpd hlen) hst (by show 2 * 0 + _ ≤ _; omega) (hb hby hd) (fun _ _ => ⟨rfl, hT, hc, hs⟩)
  dsimp only [Pt.U, Pt.locs, Pt.cells, Pt.slots] at X1 l1 y1 z1 stp hQ
  subst l1 y1 z1
  obtain ⟨U, v', L', a1, rr⟩ := H v T1.heap hQ.1 p e s m args below meth c T1 _ ⟨hx, hZ, hown, hby, hml, hret, hlk, hnm⟩ X1 rfl (N.app hQ.2.1) hQ.2.2
  exact ⟨U, v', L', stp _ a1, rr⟩
theorem WP.callI {y : MethodName} {By : Bod} {as : List Value} {a : Addr} {idx : Nat} {Qy : Option Value → Heap → Prop} {ps : List FieldType} {r : Option FieldType}
    (hd : decode B.bytes pc = .ok (.invokespecial idx, 3)) (w1 : (Cond.methodLink B.own idx y).before a0 Z = true) (w2 : (Cond.instanceMethod y).before a0 Z = true) (w3 : (Cond.initialized y.cls).before a0 Z = true) (w4 : (Cond.code y By.bytes By.maxL By.ret).before a0 Z = true) (hyn : y.name = "<init>") (hyr : By.ret = none)
    (hy : y.cls ≠ "java/lang/invoke/MethodHandle" ∧ y.cls ≠ "java/lang/invoke/VarHandle") (hM : OMet l y By Z n0 (.ref a :: as).toArray h Qy) (hpd : parseMethodDescriptor y.desc = some ⟨ps, r⟩) (hlen : as.length = ps.length) (hst : st = as.reverse ++ .ref a :: rest) (hls : ls.size = B.maxL)
    (hfr : By.room.frames + 1 ≤ B.room.frames) (hlo : (rest.map fun v => v.category).sum + (By.maxL + 11) + By.room.locals ≤ B.room.locals) (hc : cs + By.room.cells ≤ B.room.cells) (hs : sl + By.room.slots ≤ B.room.slots) (hp : pc + 3 = pc')
    (H : ∀ v h', Qy v h' → WP l B Z n0 Q h' (cs + By.room.cells) (sl + By.room.slots) pc' ls (v.toList ++ rest)) : WP l B Z n0 Q h cs sl pc ls st := by
  subst hp
  intro p e s m args below meth c T L C X hT N hn
  obtain ⟨hx, hZ, hown, hby, hml, hret, hlk, hnm⟩ := C
  obtain ⟨v, _, ⟨T1, L1, k1, n1⟩, -, X1, ⟨Lc, hQ, l1, y1, z1⟩, stp⟩ := X.specialBack hx (y := y) hyn hown (mvT hZ w1) (mvT hZ w2) (mvT hZ (hyr ▸ w4)) hy (backOf (W := (rest.map fun v => v.category).sum) (Q := fun v h' L => Qy v h' ∧ Fr n0 L ∧ n0 ≤ h'.size) (hM hn []) hZ w4 w3 hfr hlo) (g := mkF m pc ls st) rfl (by rw [hml]; exact hls) (Steps.refl _) (a := a) (argsL := as) (rest := rest) (lenOf hpd hlen) hst (by show 2 * 0 + _ ≤ _; omega) (hb hby hd) (fun _ _ => ⟨rfl, hT, hc, hs⟩)
  dsimp only [Pt.U, Pt.locs, Pt.cells, Pt.slots] at X1 l1 y1 z1 stp hQ
  subst l1 y1 z1
  obtain ⟨U, v', L', a1, rr⟩ := H v T1.heap hQ.1 p e s m args below meth c T1 _ ⟨hx, hZ, hown, hby, hml, hret, hlk, hnm⟩ X1 rfl (N.app hQ.2.1) hQ.2.2
  exact ⟨U, v', L', stp.trans a1, rr⟩
theorem WP.callV {y z : MethodName} {By : Bod} {Cl : String} {as : List Value} {a : Addr} {idx : Nat} {Qy : Option Value → Heap → Prop} {ps : List FieldType} {r : Option FieldType}
    (hd : decode B.bytes pc = .ok (.invokevirtual idx, 3)) (w1 : (Cond.methodLink B.own idx y).before a0 Z = true) (w2 : (Cond.declares y).before a0 Z = true) (w5 : (Cond.selects Cl y z).before a0 Z = true) (w6 : (Cond.instanceMethod z).before a0 Z = true) (w3 : (Cond.initialized z.cls).before a0 Z = true) (w4 : (Cond.code z By.bytes By.maxL By.ret).before a0 Z = true) (hyz : y = z) (hcl : Cl = y.cls)
    (hy : y.cls ≠ "java/lang/invoke/MethodHandle" ∧ y.cls ≠ "java/lang/invoke/VarHandle") (E : Exa Z h a Cl) (hM : OMet l z By Z n0 (.ref a :: as).toArray h Qy) (hpd : parseMethodDescriptor y.desc = some ⟨ps, r⟩) (hlen : as.length = ps.length) (hst : st = as.reverse ++ .ref a :: rest) (hls : ls.size = B.maxL)
    (hfr : By.room.frames + 1 ≤ B.room.frames) (hlo : (rest.map fun v => v.category).sum + (By.maxL + 11) + By.room.locals ≤ B.room.locals) (hc : cs + By.room.cells ≤ B.room.cells) (hs : sl + By.room.slots ≤ B.room.slots) (hp : pc + 3 = pc')
    (H : ∀ v h', Qy v h' → WP l B Z n0 Q h' (cs + By.room.cells) (sl + By.room.slots) pc' ls (v.toList ++ rest)) : WP l B Z n0 Q h cs sl pc ls st := by
  subst hp hyz hcl
  intro p e s m args below meth c T L C X hT N hn
  obtain ⟨hx, hZ, hown, hby, hml, hret, hlk, hnm⟩ := C
  obtain ⟨cq, kq, qa, qb, qc⟩ := isOf (T := T) hZ hT E
  obtain ⟨v, _, ⟨T1, L1, k1, n1⟩, -, X1, ⟨Lc, hQ, l1, y1, z1⟩, stp⟩ := X.virtualBack hx (y := y) (z := y) hown (mvT hZ w1) (mvT hZ w2) (notFace_of_selects (args := #[]) (mvT hZ w5)) (mvT hZ w5) (mvT hZ w6) hy (backOf (W := (rest.map fun v => v.category).sum) (Q := fun v h' L => Qy v h' ∧ Fr n0 L ∧ n0 ≤ h'.size) (hM hn []) hZ w4 w3 hfr hlo) qa qc (g := mkF m pc ls st) rfl (by rw [hml]; exact hls) (Steps.refl _) (argsL := as) (rest := rest) (lenOf hpd hlen) hst (by show 2 * 0 + _ ≤ _; omega) (hb hby hd) (fun _ _ => ⟨rfl, hT, hc, hs⟩)
  dsimp only [Pt.U, Pt.locs, Pt.cells, Pt.slots] at X1 l1 y1 z1 stp hQ
  subst l1 y1 z1
  obtain ⟨U, v', L', a1, rr⟩ := H v T1.heap hQ.1 p e s m args below meth c T1 _ ⟨hx, hZ, hown, hby, hml, hret, hlk, hnm⟩ X1 rfl (N.app hQ.2.1) hQ.2.2
  exact ⟨U, v', L', stp.trans a1, rr⟩
/-- Object.<init> -/
theorem WP.initO {a : Addr} {idx : Nat} (hd : decode B.bytes pc = .ok (.invokespecial idx, 3)) (w1 : (Cond.methodLink B.own idx Lib.objectInit).before a0 Z = true) (w2 : (Cond.instanceMethod Lib.objectInit).before a0 Z = true) (w3 : (Cond.code Lib.objectInit ⟨#[0xb1]⟩ 1 none).before a0 Z = true) (hls : ls.size = B.maxL) (hf : 1 ≤ B.room.frames) (hl : (rest.map fun v => v.category).sum + 12 ≤ B.room.locals) (hp : pc + 3 = pc')
    (H : WP l B Z n0 Q h cs sl pc' ls rest) : WP l B Z n0 Q h cs sl pc ls (.ref a :: rest) := by
  subst hp
  intro p e s m args below meth c T L C X hT N hn
  obtain ⟨hx, hZ, hown, hby, hml, hret, hlk, hnm⟩ := C
  obtain ⟨T1, X1, e1, stp⟩ := Jvm.RoadKit.initO X hx hZ hown w1 w2 w3 hT (g := mkF m pc ls (.ref a :: rest)) rfl (by rw [hml]; exact hls) rfl (hb hby hd) hf (W := (rest.map fun v => v.category).sum) (by show 2 * 0 + _ ≤ _; omega) hl
  obtain ⟨U, v', L', a1, rr⟩ := H p e s m args below meth c T1 _ ⟨hx, hZ, hown, hby, hml, hret, hlk, hnm⟩ X1 e1 N hn
  exact ⟨U, v', L', stp _ a1, rr⟩
/-! arrays: what one holds, place by place -/
def Av (Z : State) (h : Heap) (a : Addr) (ty : FieldType) (vs : List Value) : Prop := ∃ c : Cell, Arr Z h a c ty ∧ c.slots.toList = vs ∧ vs.length < 2 ^ 31
variable {a b : Addr} {ty : FieldType} {vs : List Value} {h' : Heap} {ws : List Addr}
theorem Av.lt (A : Av Z h a ty vs) : a < h.size := by obtain ⟨c, q, -⟩ := A; exact q.lt
theorem Av.keep (A : Av Z h a ty vs) (K : Keep h h' ws) (q : a ∉ ws) : Av Z h' a ty vs := by obtain ⟨c, A, r⟩ := A; exact ⟨c, ⟨K.2.1 a c A.1 q, A.2⟩, r⟩
theorem Av.len (A : Av Z h a ty vs) : vs.length < 2 ^ 31 := by obtain ⟨c, A, r, q⟩ := A; exact q
theorem own_idx {j : Int32} {i : Nat} (hj : j.toInt = (i : Int)) : j.toNatClampNeg = i ∧ ¬ j < 0 := by
  refine ⟨by simp [Int32.toNatClampNeg, hj], fun q => ?_⟩
  rw [Int32.lt_iff_toInt_lt] at q
  have : (0 : Int32).toInt = 0 := rfl
  omega
theorem Av.place {j : Int32} {i : Nat} {v : Value} {c : Cell} (e : c.slots.toList = vs) (hj : j.toInt = (i : Int)) (hv : vs[i]? = some v) : ¬ (j < 0 ∨ c.slots.size ≤ j.toNatClampNeg) ∧ c.slots[j.toNatClampNeg]? = some v := by
  obtain ⟨q1, q2⟩ := own_idx hj
  subst e
  rw [q1]
  have q3 : c.slots[i]? = some v := by simpa using hv
  refine ⟨fun q => q.elim q2 fun q => ?_, q3⟩
  have := (Array.getElem?_eq_some_iff.mp q3).1
  omega
theorem Keep.of_ext (E : Ext h h') : Keep h h' [] := (Keep.refl h []).ext E
theorem Av.set {i : Nat} {v : Value} {sl : Nat} (A : Av Z h a ty vs) (W : Wr h h' a sl v) (e : sl = i) : Av Z h' a ty (vs.set i v) := by
  subst e
  obtain ⟨c, A, r, q⟩ := A
  refine ⟨_, A.same W, ?_, by simpa using q⟩
  simp [Cell.setSlot, r]
theorem WP.newarr {aty : ArrayType} {n : Int32} {k : Nat} (hd : decode B.bytes pc = .ok (.newarray aty, 2)) (w : (Cond.arrayClass (newarray.typeOf aty)).before a0 Z = true) (hn : n.toInt = (k : Int)) (cap : Nat) (hcap : k ≤ cap) (hbig : cap * 8 ≤ 536870912) (hc : cs + 1 ≤ B.room.cells) (hs : sl + cap ≤ B.room.slots) (hp : pc + 2 = pc')
    (H : ∀ b h', b = h.size → n0 ≤ b → Keep h h' [] → Av Z h' b (newarray.typeOf aty) (List.replicate k (defaultValue (newarray.typeOf aty))) → WP l B Z n0 Q h' (cs + 1) (sl + cap) pc' ls (.ref b :: st)) : WP l B Z n0 Q h cs sl pc ls (.int n :: st) := by
  subst hp
  obtain ⟨q1, q2⟩ := own_idx hn
  refine WP.stepT (P := fun h' => Keep h h' [] ∧ n0 ≤ h.size ∧ Av Z h' h.size (newarray.typeOf aty) (List.replicate k (defaultValue (newarray.typeOf aty)))) ?_ (fun h' q => H h.size h' rfl q.2.1 q.1 q.2.2)
  intro p e s m args below meth c T L C X hT N hn'
  obtain ⟨T1, h1, cA, X1, e1, E1, A1, stp⟩ := newP X C.1 C.2.1 w hT (g := mkF m pc ls (.int n :: st)) rfl (hb C.2.2.2.1 hd) rfl q2 (cap := cap) (by omega) hbig hc hs
  refine ⟨T1, h1, L, X1, e1, N, Nat.le_trans hn' E1.1, ⟨Keep.of_ext E1, hn', _, A1, ?_, ?_⟩, stp⟩
  · simp [newA, q1]
  · simp; omega
theorem WP.alen {k : Int32} (hd : decode B.bytes pc = .ok (.arraylength, 1)) (A : Av Z h a ty vs) (hk : k.toInt = (vs.length : Int)) (hp : pc + 1 = pc') (H : WP l B Z n0 Q h cs sl pc' ls (.int k :: st)) : WP l B Z n0 Q h cs sl pc ls (.ref a :: st) := by
  subst hp
  obtain ⟨cl, A, r, q⟩ := A
  have e1 : cl.slots.size.toInt32 = k := by
    have e2 : cl.slots.size = vs.length := by rw [← r]; simp
    apply Int32.toInt_inj.mp
    rw [e2, hk]
    exact Int32.toInt_ofNat_of_lt q
  exact WP.step (fun p e s m args below meth c T L C X hT target k' => X.arraylength C.1 (by rw [hT]; exact A.1) (State.isArrayOf_alike C.2.1.alike A.2.1) (g := mkF m pc ls (.ref a :: st)) rfl rfl (hb C.2.2.2.1 hd) _ (by rw [e1]; exact k')) H
theorem WP.iaload {j : Int32} {x : Int32} (i : Nat) (hd : decode B.bytes pc = .ok (.iaload, 1)) (A : Av Z h a .int vs) (hj : j.toInt = (i : Int)) (hv : vs[i]? = some (.int x)) (hp : pc + 1 = pc') (H : WP l B Z n0 Q h cs sl pc' ls (.int x :: st)) : WP l B Z n0 Q h cs sl pc ls (.int j :: .ref a :: st) := by
  subst hp
  obtain ⟨cl, A, r, q⟩ := A
  obtain ⟨g1, g2⟩ := Av.place r hj hv
  exact WP.step (fun p e s m args below meth c T L C X hT target k' => X.iaload C.1 (by rw [hT]; exact A.1) (State.isArrayOf_alike C.2.1.alike A.2.1) A.2.2 g1 g2 (g := mkF m pc ls (.int j :: .ref a :: st)) rfl rfl (hb C.2.2.2.1 hd) _ k') H
theorem WP.laload {j : Int32} {x : Int64} (i : Nat) (hd : decode B.bytes pc = .ok (.laload, 1)) (A : Av Z h a .long vs) (hj : j.toInt = (i : Int)) (hv : vs[i]? = some (.long x)) (hp : pc + 1 = pc') (H : WP l B Z n0 Q h cs sl pc' ls (.long x :: st)) : WP l B Z n0 Q h cs sl pc ls (.int j :: .ref a :: st) := by
  subst hp
  obtain ⟨cl, A, r, q⟩ := A
  obtain ⟨g1, g2⟩ := Av.place r hj hv
  exact WP.step (fun p e s m args below meth c T L C X hT target k' => X.laload C.1 (by rw [hT]; exact A.1) (State.isArrayOf_alike C.2.1.alike A.2.1) A.2.2 g1 g2 (g := mkF m pc ls (.int j :: .ref a :: st)) rfl rfl (hb C.2.2.2.1 hd) _ k') H
theorem WP.caload {j : Int32} {x : Int32} (i : Nat) (hd : decode B.bytes pc = .ok (.caload, 1)) (A : Av Z h a .char vs) (hj : j.toInt = (i : Int)) (hv : vs[i]? = some (.int x)) (hp : pc + 1 = pc') (H : WP l B Z n0 Q h cs sl pc' ls (.int x :: st)) : WP l B Z n0 Q h cs sl pc ls (.int j :: .ref a :: st) := by
  subst hp
  obtain ⟨cl, A, r, q⟩ := A
  obtain ⟨g1, g2⟩ := Av.place r hj hv
  exact WP.step (fun p e s m args below meth c T L C X hT target k' => X.caload C.1 (by rw [hT]; exact A.1) (State.isArrayOf_alike C.2.1.alike A.2.1) A.2.2 g1 g2 (g := mkF m pc ls (.int j :: .ref a :: st)) rfl rfl (hb C.2.2.2.1 hd) _ k') H
theorem WP.baloadB {j : Int32} {x : Int32} (i : Nat) (hd : decode B.bytes pc = .ok (.baload, 1)) (A : Av Z h a .byte vs) (hj : j.toInt = (i : Int)) (hv : vs[i]? = some (.int x)) (hp : pc + 1 = pc') (H : WP l B Z n0 Q h cs sl pc' ls (.int x :: st)) : WP l B Z n0 Q h cs sl pc ls (.int j :: .ref a :: st) := by
  subst hp
  obtain ⟨cl, A, r, q⟩ := A
  obtain ⟨g1, g2⟩ := Av.place r hj hv
  exact WP.step (fun p e s m args below meth c T L C X hT target k' => X.baloadBytes C.1 (by rw [hT]; exact A.1) (State.isArrayOf_alike C.2.1.alike A.2.1) A.2.2 g1 g2 (g := mkF m pc ls (.int j :: .ref a :: st)) rfl rfl (hb C.2.2.2.1 hd) _ k') H
theorem WP.baloadZ {j : Int32} {x : Int32} (i : Nat) (hd : decode B.bytes pc = .ok (.baload, 1)) (A : Av Z h a .boolean vs) (hj : j.toInt = (i : Int)) (hv : vs[i]? = some (.int x)) (hp : pc + 1 = pc') (H : WP l B Z n0 Q h cs sl pc' ls (.int x :: st)) : WP l B Z n0 Q h cs sl pc ls (.int j :: .ref a :: st) := by
  subst hp
  obtain ⟨cl, A, r, q⟩ := A
  obtain ⟨g1, g2⟩ := Av.place r hj hv
  exact WP.step (fun p e s m args below meth c T L C X hT target k' => X.baloadBooleans C.1 (by rw [hT]; exact A.1) (State.isArrayOf_alike C.2.1.alike A.2.1) A.2.2 g1 g2 (g := mkF m pc ls (.int j :: .ref a :: st)) rfl rfl (hb C.2.2.2.1 hd) _ k') H
theorem WP.aaload {j : Int32} {x : Value} (i : Nat) (hd : decode B.bytes pc = .ok (.aaload, 1)) (A : Av Z h a ty vs) (hty : ty.isReference = true) (hj : j.toInt = (i : Int)) (hv : vs[i]? = some x) (hp : pc + 1 = pc') (H : WP l B Z n0 Q h cs sl pc' ls (x :: st)) : WP l B Z n0 Q h cs sl pc ls (.int j :: .ref a :: st) := by
  subst hp
  obtain ⟨cl, A, r, q⟩ := A
  obtain ⟨g1, g2⟩ := Av.place r hj hv
  exact WP.step (fun p e s m args below meth c T L C X hT target k' => X.aaload C.1 (by rw [hT]; exact A.1) (State.isArrayOf_alike C.2.1.alike A.2.1) hty A.2.2 g1 g2 (g := mkF m pc ls (.int j :: .ref a :: st)) rfl rfl (hb C.2.2.2.1 hd) _ k') H
theorem WP.iastore {j : Int32} {x : Int32} (i : Nat) (hd : decode B.bytes pc = .ok (.iastore, 1)) (A : Av Z h a .int vs) (hj : j.toInt = (i : Int)) (hi : i < vs.length) (ha : n0 ≤ a) (hp : pc + 1 = pc') (H : ∀ h', Keep h h' [a] → Av Z h' a .int (vs.set i (.int x)) → WP l B Z n0 Q h' cs sl pc' ls st) : WP l B Z n0 Q h cs sl pc ls (.int x :: .int j :: .ref a :: st) := by
  subst hp
  obtain ⟨cl, Ar, r, q⟩ := id A
  obtain ⟨g1, -⟩ := Av.place r hj (List.getElem?_eq_getElem hi)
  refine WP.stepT (P := fun h' => Keep h h' [a] ∧ Av Z h' a .int (vs.set i (.int x))) ?_ (fun h' q => H h' q.1 q.2)
  intro p e s m args below meth c T L C X hT N hn'
  obtain ⟨T1, h1, X1, e1, W1, stp⟩ := stI X C.1 C.2.1 hT Ar g1 (g := mkF m pc ls (.int x :: .int j :: .ref a :: st)) rfl rfl (hb C.2.2.2.1 hd)
  exact ⟨T1, h1, _, X1, e1, Fr.snoc X1 N ha, by rw [W1.size]; exact hn', ⟨Keep.of_wr W1, A.set W1 (own_idx hj).1⟩, stp⟩
theorem WP.lastore {j : Int32} {x : Int64} (i : Nat) (hd : decode B.bytes pc = .ok (.lastore, 1)) (A : Av Z h a .long vs) (hj : j.toInt = (i : Int)) (hi : i < vs.length) (ha : n0 ≤ a) (hp : pc + 1 = pc') (H : ∀ h', Keep h h' [a] → Av Z h' a .long (vs.set i (.long x)) → WP l B Z n0 Q h' cs sl pc' ls st) : WP l B Z n0 Q h cs sl pc ls (.long x :: .int j :: .ref a :: st) := by
  subst hp
  obtain ⟨cl, Ar, r, q⟩ := id A
  obtain ⟨g1, -⟩ := Av.place r hj (List.getElem?_eq_getElem hi)
  refine WP.stepT (P := fun h' => Keep h h' [a] ∧ Av Z h' a .long (vs.set i (.long x))) ?_ (fun h' q => H h' q.1 q.2)
  intro p e s m args below meth c T L C X hT N hn'
  obtain ⟨T1, h1, X1, e1, W1, stp⟩ := stJ X C.1 C.2.1 hT Ar g1 (g := mkF m pc ls (.long x :: .int j :: .ref a :: st)) rfl rfl (hb C.2.2.2.1 hd)
  exact ⟨T1, h1, _, X1, e1, Fr.snoc X1 N ha, by rw [W1.size]; exact hn', ⟨Keep.of_wr W1, A.set W1 (own_idx hj).1⟩, stp⟩
theorem WP.castore {j : Int32} {x : Int32} (i : Nat) (hd : decode B.bytes pc = .ok (.castore, 1)) (A : Av Z h a .char vs) (hj : j.toInt = (i : Int)) (hi : i < vs.length) (ha : n0 ≤ a) (hp : pc + 1 = pc') (H : ∀ h', Keep h h' [a] → Av Z h' a .char (vs.set i (.int (nar .char x))) → WP l B Z n0 Q h' cs sl pc' ls st) : WP l B Z n0 Q h cs sl pc ls (.int x :: .int j :: .ref a :: st) := by
  subst hp
  obtain ⟨cl, Ar, r, q⟩ := id A
  obtain ⟨g1, -⟩ := Av.place r hj (List.getElem?_eq_getElem hi)
  refine WP.stepT (P := fun h' => Keep h h' [a] ∧ Av Z h' a .char (vs.set i (.int (nar .char x)))) ?_ (fun h' q => H h' q.1 q.2)
  intro p e s m args below meth c T L C X hT N hn'
  obtain ⟨T1, h1, X1, e1, W1, stp⟩ := stC X C.1 C.2.1 hT Ar g1 (g := mkF m pc ls (.int x :: .int j :: .ref a :: st)) rfl rfl (hb C.2.2.2.1 hd)
  exact ⟨T1, h1, _, X1, e1, Fr.snoc X1 N ha, by rw [W1.size]; exact hn', ⟨Keep.of_wr W1, A.set W1 (own_idx hj).1⟩, stp⟩
theorem WP.bastoreB {j : Int32} {x : Int32} (i : Nat) (hd : decode B.bytes pc = .ok (.bastore, 1)) (A : Av Z h a .byte vs) (hj : j.toInt = (i : Int)) (hi : i < vs.length) (ha : n0 ≤ a) (hp : pc + 1 = pc') (H : ∀ h', Keep h h' [a] → Av Z h' a .byte (vs.set i (.int (nar .byte x))) → WP l B Z n0 Q h' cs sl pc' ls st) : WP l B Z n0 Q h cs sl pc ls (.int x :: .int j :: .ref a :: st) := by
  subst hp
  obtain ⟨cl, Ar, r, q⟩ := id A
  obtain ⟨g1, -⟩ := Av.place r hj (List.getElem?_eq_getElem hi)
  refine WP.stepT (P := fun h' => Keep h h' [a] ∧ Av Z h' a .byte (vs.set i (.int (nar .byte x)))) ?_ (fun h' q => H h' q.1 q.2)
  intro p e s m args below meth c T L C X hT N hn'
  obtain ⟨T1, h1, X1, e1, W1, stp⟩ := stB X C.1 C.2.1 hT Ar g1 (g := mkF m pc ls (.int x :: .int j :: .ref a :: st)) rfl rfl (hb C.2.2.2.1 hd)
  exact ⟨T1, h1, _, X1, e1, Fr.snoc X1 N ha, by rw [W1.size]; exact hn', ⟨Keep.of_wr W1, A.set W1 (own_idx hj).1⟩, stp⟩
theorem WP.bastoreZ {j : Int32} {x : Int32} (i : Nat) (hd : decode B.bytes pc = .ok (.bastore, 1)) (A : Av Z h a .boolean vs) (hj : j.toInt = (i : Int)) (hi : i < vs.length) (ha : n0 ≤ a) (hp : pc + 1 = pc') (H : ∀ h', Keep h h' [a] → Av Z h' a .boolean (vs.set i (.int (nar .boolean x))) → WP l B Z n0 Q h' cs sl pc' ls st) : WP l B Z n0 Q h cs sl pc ls (.int x :: .int j :: .ref a :: st) := by
  subst hp
  obtain ⟨cl, Ar, r, q⟩ := id A
  obtain ⟨g1, -⟩ := Av.place r hj (List.getElem?_eq_getElem hi)
  refine WP.stepT (P := fun h' => Keep h h' [a] ∧ Av Z h' a .boolean (vs.set i (.int (nar .boolean x)))) ?_ (fun h' q => H h' q.1 q.2)
  intro p e s m args below meth c T L C X hT N hn'
  obtain ⟨T1, h1, X1, e1, W1, stp⟩ := stZ X C.1 C.2.1 hT Ar g1 (g := mkF m pc ls (.int x :: .int j :: .ref a :: st)) rfl rfl (hb C.2.2.2.1 hd)
  exact ⟨T1, h1, _, X1, e1, Fr.snoc X1 N ha, by rw [W1.size]; exact hn', ⟨Keep.of_wr W1, A.set W1 (own_idx hj).1⟩, stp⟩
/-! objects: the fields that the sheet lays, in one list -/
abbrev OLay : Type := List (String × String × String)
def Ob (Z : State) (h : Heap) (a : Addr) (C : String) (lay : OLay) (vs : List Value) : Prop := Exa Z h a C ∧ lay.length = vs.length ∧ ∀ (i : Nat) (O n d : String) (v : Value), lay[i]? = some (O, n, d) → vs[i]? = some v → Fld Z h a O n d v
def OLaids (Z : State) (a0 : Array Value) (C : String) (lay : OLay) : Prop := ∀ q ∈ lay, Laid Z a0 C q.1 q.2.1 q.2.2 ∧ ∃ t, parseFieldDescriptor q.2.2 = some t
variable {Cl O n d : String} {lay : OLay} {v : Value}
theorem Ob.lt (A : Ob Z h a Cl lay vs) : a < h.size := A.1.lt
theorem Ob.keep (A : Ob Z h a Cl lay vs) (K : Keep h h' ws) (q : a ∉ ws) : Ob Z h' a Cl lay vs := ⟨A.1.keep K, A.2.1, fun i O n d v h1 h2 => (A.2.2 i O n d v h1 h2).keep K q⟩
theorem Ob.fld (A : Ob Z h a Cl lay vs) (i : Nat) (h1 : lay[i]? = some (O, n, d)) (h2 : vs[i]? = some v) : Fld Z h a O n d v := A.2.2 i O n d v h1 h2
theorem Ob.put {i : Nat} (A : Ob Z h a Cl lay vs) (La : OLaids Z a0 Cl lay) (hnd : (lay.map fun q => q.2.1).Nodup) (h1 : lay[i]? = some (O, n, d)) (W : Wr h h' a (Jvm.RoadKit.slotOf Z O n d) v) : Ob Z h' a Cl lay (vs.set i v) := by
  refine ⟨A.1.wr W, by simpa using A.2.1, fun j O' n' d' v' g1 g2 => ?_⟩
  by_cases e : i = j
  · subst e
    cases h1.symm.trans g1
    have hi : i < vs.length := by rw [← A.2.1]; exact (List.getElem?_eq_some_iff.mp h1).1
    rw [List.getElem?_set_self hi] at g2
    cases g2
    exact (A.fld i h1 (List.getElem?_eq_getElem hi)).same W
  · rw [List.getElem?_set_ne e] at g2
    refine (A.fld j g1 g2).other W (Or.inr ?_)
    obtain ⟨l1, t1, p1⟩ := La _ (List.mem_of_getElem? g1)
    obtain ⟨l2, t2, p2⟩ := La _ (List.mem_of_getElem? h1)
    refine slot_ne l1 l2 (fun q => ?_) p1 p2
    have k1 : (lay.map fun q => q.2.1)[j]? = some n' := by simp [g1]
    have k2 : (lay.map fun q => q.2.1)[i]? = some n := by simp [h1]
    obtain ⟨m1, f1⟩ := List.getElem?_eq_some_iff.mp k1
    obtain ⟨m2, f2⟩ := List.getElem?_eq_some_iff.mp k2
    have pw := List.pairwise_iff_getElem.mp hnd
    rcases Nat.lt_or_gt_of_ne e with c | c
    · exact pw i j m2 m1 c (f2.trans ((show n = n' from q.symm).trans f1.symm))
    · exact pw j i m1 m2 c (f1.trans ((show n' = n from q).trans f2.symm))
theorem WP.getf {idx i : Nat} (hd : decode B.bytes pc = .ok (.getfield idx, 3)) (w : (Cond.fieldLink B.own idx O n d).before a0 Z = true) (A : Ob Z h a Cl lay vs) (h1 : lay[i]? = some (O, n, d)) (h2 : vs[i]? = some v) (hp : pc + 3 = pc') (H : WP l B Z n0 Q h cs sl pc' ls (v :: st)) : WP l B Z n0 Q h cs sl pc ls (.ref a :: st) := by
  subst hp
  intro p e s m args below meth c T L C X hT N hn
  obtain ⟨T1, X1, e1, stp⟩ := getF X C.1 C.2.1 C.2.2.1 (host := "") (Or.inl w) Via.refl hT (A.fld i h1 h2) (g := mkF m pc ls (.ref a :: st)) rfl rfl (hb C.2.2.2.1 hd)
  obtain ⟨U, v', L', a1, rr⟩ := H p e s m args below meth c T1 _ C X1 e1 N hn
  exact ⟨U, v', L', stp _ a1, rr⟩
theorem WP.putf {idx i kk : Nat} {t : FieldType} (hd : decode B.bytes pc = .ok (.putfield idx, 3)) (w : (Cond.fieldLink B.own idx O n d).before a0 Z = true) (A : Ob Z h a Cl lay vs) (La : OLaids Z a0 Cl lay) (hnd : (lay.map fun q => q.2.1).Nodup) (h1 : lay[i]? = some (O, n, d))
    (hL : (Cond.lays Cl O n d).before a0 Z = true ∨ ((Cond.laysFinal Cl O n d).before a0 Z = true ∧ B.own = O ∧ B.mname = "<init>")) (wi : (Cond.instantiable Cl kk).before a0 Z = true) (ht : parseFieldDescriptor d = some t) (hnw : narrow t v = v) (hf : fits t v = true) (ha : n0 ≤ a) (hp : pc + 3 = pc')
    (H : ∀ h', Keep h h' [a] → Ob Z h' a Cl lay (vs.set i v) → WP l B Z n0 Q h' cs sl pc' ls st) : WP l B Z n0 Q h cs sl pc ls (v :: .ref a :: st) := by
  subst hp
  have hi : i < vs.length := by rw [← A.2.1]; exact (List.getElem?_eq_some_iff.mp h1).1
  refine WP.stepT (P := fun h' => Keep h h' [a] ∧ Ob Z h' a Cl lay (vs.set i v)) ?_ (fun h' q => H h' q.1 q.2)
  intro p e s m args below meth c T L C X hT N hn'
  obtain ⟨T1, h2, X1, e1, W1, stp⟩ := putF X C.1 C.2.1 C.2.2.1 (host := "") (Or.inl w) Via.refl hT (A.fld i h1 (List.getElem?_eq_getElem hi)) A.1 (hL.imp id fun q => ⟨q.1, q.2.1, C.2.2.2.2.2.2.2.trans q.2.2⟩) wi ht hnw hf (g := mkF m pc ls (v :: .ref a :: st)) rfl rfl (hb C.2.2.2.1 hd)
  exact ⟨T1, h2, _, X1, e1, Fr.snoc X1 N ha, by rw [W1.size]; exact hn', ⟨Keep.of_wr W1, A.put La hnd h1 W1⟩, stp⟩
theorem WP.newobj {idx k : Nat} (hd : decode B.bytes pc = .ok (.new idx, 3)) (w : (Cond.classLink B.own idx Cl).before a0 Z = true) (wi : (Cond.instantiable Cl k).before a0 Z = true) (wz : (Cond.initialized Cl).before a0 Z = true) (La : OLaids Z a0 Cl lay) (hvs : lay.map (fun q => (parseFieldDescriptor q.2.2).map defaultValue) = vs.map some) (hc : cs + 1 ≤ B.room.cells) (hs : sl + k ≤ B.room.slots) (hp : pc + 3 = pc')
    (H : ∀ b h', b = h.size → n0 ≤ b → Keep h h' [] → Ob Z h' b Cl lay vs → WP l B Z n0 Q h' (cs + 1) (sl + k) pc' ls (.ref b :: st)) : WP l B Z n0 Q h cs sl pc ls st := by
  subst hp
  refine WP.stepT (P := fun h' => Keep h h' [] ∧ n0 ≤ h.size ∧ Ob Z h' h.size Cl lay vs) ?_ (fun h' q => H h.size h' rfl q.2.1 q.1 q.2.2)
  intro p e s m args below meth c T L C X hT N hn'
  obtain ⟨T1, h1, X1, e1, E1, A1, D1, -, stp⟩ := newO X C.1 C.2.1 C.2.2.1 w wi wz hT (g := mkF m pc ls st) rfl (hb C.2.2.2.1 hd) hc hs
  refine ⟨T1, h1, L, X1, e1, N, Nat.le_trans hn' E1.1, ⟨Keep.of_ext E1, hn', A1, by simpa using congrArg List.length hvs, fun i O n d v g1 g2 => ?_⟩, stp⟩
  obtain ⟨l1, t1, p1⟩ := La _ (List.mem_of_getElem? g1)
  have k1 := congrArg (fun z => z[i]?) hvs
  simp only [List.getElem?_map, g1, g2, Option.map_some] at k1
  rw [show parseFieldDescriptor d = some t1 from p1] at k1
  simp only [Option.map_some, Option.some.injEq] at k1
  rw [← k1]
  exact D1 l1 p1
end W
end Jvm.OwnWP
namespace Jvm.OwnWP
open Sem ClassFile Op Lib Jvm.RoadKit
theorem own_r32 (x : Int32) : -2147483648 ≤ x.toInt ∧ x.toInt < 2147483648 := ⟨x.le_toInt, x.toInt_lt⟩
theorem own_r64 (x : Int64) : -9223372036854775808 ≤ x.toInt ∧ x.toInt < 9223372036854775808 := ⟨x.le_toInt, x.toInt_lt⟩
theorem own_iadd {x y : Int32} (h1 : -2147483648 ≤ x.toInt + y.toInt) (h2 : x.toInt + y.toInt < 2147483648) : (x + y).toInt = x.toInt + y.toInt := by have := c_iadd x y; have := own_r32 (x + y); omega
theorem own_isub {x y : Int32} (h1 : -2147483648 ≤ x.toInt - y.toInt) (h2 : x.toInt - y.toInt < 2147483648) : (x - y).toInt = x.toInt - y.toInt := by have := c_isub x y; have := own_r32 (x - y); omega
theorem own_ladd {x y : Int64} (h1 : -9223372036854775808 ≤ x.toInt + y.toInt) (h2 : x.toInt + y.toInt < 9223372036854775808) : (x + y).toInt = x.toInt + y.toInt := by have := c_ladd x y; have := own_r64 (x + y); omega
theorem own_lsub {x y : Int64} (h1 : -9223372036854775808 ≤ x.toInt - y.toInt) (h2 : x.toInt - y.toInt < 9223372036854775808) : (x - y).toInt = x.toInt - y.toInt := by have := c_lsub x y; have := own_r64 (x - y); omega
theorem own_mask (x m : Int32) (k : Nat) (P : Int) (hk : k ≤ 31) (hm : m.toBitVec.toNat = 2 ^ k - 1) (hP : ((2 ^ k : Nat) : Int) = P) : (x &&& m).toInt = x.toInt % P := by rw [← hP]; exact c_mask x m k hk hm
theorem own_maskL (x m : Int64) (k : Nat) (P : Int) (hk : k ≤ 63) (hm : m.toBitVec.toNat = 2 ^ k - 1) (hP : ((2 ^ k : Nat) : Int) = P) : (x &&& m).toInt = x.toInt % P := by rw [← hP]; exact c_maskL x m k hk hm
theorem own_irem {x y : Int32} {d : Int} (hy : y.toInt = d) (h0 : 0 ≤ x.toInt) : (x % y).toInt = x.toInt % d := (c_irem x y d hy).1 h0
theorem own_ushr (x q : Int32) (k : Nat) (P : Int) (hk : q.toBitVec.toNat % 32 = k) (h0 : 0 < k) (hP : ((2 ^ k : Nat) : Int) = P) : (ushr x q).toInt = (x.toInt % 4294967296) / P := by rw [← hP]; exact c_iushr x q k hk h0
theorem own_ishr (x q : Int32) (k : Nat) (P : Int) (hk : q.toBitVec.toNat % 32 = k) (hP : ((2 ^ k : Nat) : Int) = P) : (x >>> (q &&& 31)).toInt = x.toInt / P := by rw [← hP]; exact c_ishr x q k hk
theorem own_nar1 : nar .boolean 1 = 1 := by decide
theorem own_nar0 : nar .boolean 0 = 0 := by decide
theorem own_q1 : (some (Value.int (nar .boolean 1))) = some (Value.int 1) := congrArg (fun z => some (Value.int z)) own_nar1
theorem own_q0 : (some (Value.int (nar .boolean 0))) = some (Value.int 0) := congrArg (fun z => some (Value.int z)) own_nar0
theorem own_e32 {x y : Int32} (h : x.toInt = y.toInt) : x = y := Int32.toInt_inj.mp h
theorem own_e64 {x y : Int64} (h : x.toInt = y.toInt) : x = y := Int64.toInt_inj.mp h
end Jvm.OwnWP
namespace Jvm.OwnWP
theorem own_getI (xs : List Int32) (i : Nat) (h : i < xs.length) : ∃ y, (xs.map Value.int)[i]? = some (Value.int y) := ⟨xs[i], by simp [h]⟩
theorem own_getJ (xs : List Int64) (i : Nat) (h : i < xs.length) : ∃ y, (xs.map Value.long)[i]? = some (Value.long y) := ⟨xs[i], by simp [h]⟩
end Jvm.OwnWP
namespace Jvm.OwnWP
theorem own_nil {a : Addr} : a ∉ ([] : List Addr) := nofun
theorem own_cons {a b : Addr} {ws : List Addr} (h : a ≠ b) (h' : a ∉ ws) : a ∉ b :: ws := fun q => (List.mem_cons.mp q).elim h h'
end Jvm.OwnWP
namespace Jvm.OwnWP
theorem own_all0 {P : Addr → Prop} : ∀ x ∈ ([] : List Addr), P x := fun _ q => nomatch q
theorem own_all {P : Addr → Prop} {a : Addr} {ws : List Addr} (h : P a) (h' : ∀ x ∈ ws, P x) : ∀ x ∈ a :: ws, P x := fun x q => (List.mem_cons.mp q).elim (fun e => e ▸ h) (h' x)
end Jvm.OwnWP
namespace Jvm.OwnWP
open Sem ClassFile Op Lib Jvm.Stand Jvm.Free Jvm.LawKit Jvm.RoadKit
def own_fill : List Value → List Slot
  | [] => []
  | v :: r => if v.category = 2 then .val v :: .second :: own_fill r else .val v :: own_fill r
def own_push (acc : Array Slot) (v : Value) : Array Slot := if v.category = 2 then (acc.push (Slot.val v)).push Slot.second else acc.push (Slot.val v)
theorem own_fold (as : List Value) (acc : Array Slot) : as.foldl own_push acc = acc ++ (own_fill as).toArray := by
  induction as generalizing acc with
  | nil => simp [own_fill]
  | cons v r ih =>
    simp only [List.foldl_cons, own_fill]
    rw [ih]
    unfold own_push
    split <;> simp
theorem own_entry {m : MethodId} {as : List Value} {n : Nat} {fs : List Slot} (k : Nat) (h1 : own_fill as = fs) (h2 : fs.length + k = n) : entryFrame m as.toArray n = mkF m 0 (fs ++ List.replicate k Slot.unset).toArray [] := by
  subst h1 h2
  have e0 : as.toArray.foldl own_push #[] = (own_fill as).toArray := by
    simp only [List.size_toArray, List.foldl_toArray']
    rw [own_fold]; simp
  have e : argsToLocals as.toArray ((own_fill as).length + k) = (own_fill as ++ List.replicate k Slot.unset).toArray := by
    show as.toArray.foldl own_push #[] ++ Array.replicate ((own_fill as).length + k - (as.toArray.foldl own_push #[]).size) Slot.unset = _
    rw [e0]
    simp
  show ({ method := m, pc := 0, locals := argsToLocals as.toArray ((own_fill as).length + k), stack := [], locked := none } : JFrame) = _
  rw [e]
end Jvm.OwnWP
namespace Jvm.OwnWP
theorem own_nz {y : Int32} (h : y.toInt ≠ 0) : y ≠ 0 := fun q => h (by rw [q]; rfl)
theorem own_nzL {y : Int64} (h : y.toInt ≠ 0) : y ≠ 0 := fun q => h (by rw [q]; rfl)
end Jvm.OwnWP
namespace Jvm.OwnWP
open Sem ClassFile Op Lib Jvm.Stand Jvm.Free Jvm.LawKit Jvm.RoadKit
section W
variable {l : Launch} {B : Bod} {Z : State} {n0 : Nat} {Q : Option Value → Heap → Prop} {h : Heap} {cs sl pc pc' : Nat} {ls ls' : Array Slot} {st rest : List Value} {a0 : Array Value}
/-- a private method by invokevirtual; that its class is no interface is read off another 'selects' word of that class -/
theorem WP.callP {y y0 : MethodName} {By : Bod} {Cl : String} {as : List Value} {a : Addr} {idx : Nat} {Qy : Option Value → Heap → Prop} {ps : List FieldType} {r : Option FieldType}
    (hd : decode B.bytes pc = .ok (.invokevirtual idx, 3)) (w1 : (Cond.methodLink B.own idx y).before a0 Z = true) (w2 : (Cond.instanceMethod y).before a0 Z = true) (w5 : (Cond.privateMethod y).before a0 Z = true) (w6 : (Cond.selects Cl y0 y0).before a0 Z = true) (w3 : (Cond.initialized y.cls).before a0 Z = true) (w4 : (Cond.code y By.bytes By.maxL By.ret).before a0 Z = true) (hcl : y0.cls = y.cls)
    (hy : y.cls ≠ "java/lang/invoke/MethodHandle" ∧ y.cls ≠ "java/lang/invoke/VarHandle") {Ce : String} (E : Exa Z h a Ce) (hM : OMet l y By Z n0 (.ref a :: as).toArray h Qy) (hpd : parseMethodDescriptor y.desc = some ⟨ps, r⟩) (hlen : as.length = ps.length) (hst : st = as.reverse ++ .ref a :: rest) (hls : ls.size = B.maxL)
    (hfr : By.room.frames + 1 ≤ B.room.frames) (hlo : (rest.map fun v => v.category).sum + (By.maxL + 11) + By.room.locals ≤ B.room.locals) (hc : cs + By.room.cells ≤ B.room.cells) (hs : sl + By.room.slots ≤ B.room.slots) (hp : pc + 3 = pc')
    (H : ∀ v h', Qy v h' → WP l B Z n0 Q h' (cs + By.room.cells) (sl + By.room.slots) pc' ls (v.toList ++ rest)) : WP l B Z n0 Q h cs sl pc ls st := by
  subst hp
  intro p e s m args below meth c T L C X hT N hn
  obtain ⟨hx, hZ, hown, hby, hml, hret, hlk, hnm⟩ := C
  obtain ⟨cq, q1, q2⟩ := E.cell
  have hpr : s.PrivateAt y := Cond.privateMethod_at (mvP hZ w5 (args := #[]))
  have hsel : (Cond.selects y.cls y y).before args s = true := by
    obtain ⟨c2, r2, m2, -, -, q3, -, kP, hkP, hkPi⟩ := Cond.selects_spec (mvT (args := args) hZ w6)
    have hc2 := findClass_of_methodNamed q3
    rw [hcl] at hc2
    exact selects_self_of_private hc2 hkP hkPi hpr (mvT hZ w2) hy
  obtain ⟨v, _, ⟨T1, L1, k1, n1⟩, -, X1, ⟨Lc, hQ, l1, y1, z1⟩, stp⟩ := X.privateBack hx (y := y) hown (mvT hZ w1) (mvT hZ w2) hsel hpr (mvT hZ w4) hy (backOf (W := (rest.map fun v => v.category).sum) (Q := fun v h' L => Qy v h' ∧ Fr n0 L ∧ n0 ≤ h'.size) (hM hn []) hZ w4 w3 hfr hlo) (g := mkF m pc ls st) rfl (by rw [hml]; exact hls) (Steps.refl _) (a := a) (cell := cq) (by rw [hT]; exact q1) q2 (argsL := as) (rest := rest) (lenOf hpd hlen) hst (by show 2 * 0 + _ ≤ _; omega) (hb hby hd) (fun _ _ => ⟨rfl, hT, hc, hs⟩)
  dsimp only [Pt.U, Pt.locs, Pt.cells, Pt.slots] at X1 l1 y1 z1 stp hQ
  subst l1 y1 z1
  obtain ⟨U, v', L', a1, rr⟩ := H v T1.heap hQ.1 p e s m args below meth c T1 _ ⟨hx, hZ, hown, hby, hml, hret, hlk, hnm⟩ X1 rfl (N.app hQ.2.1) hQ.2.2
  exact ⟨U, v', L', stp.trans a1, rr⟩
end W
end Jvm.OwnWP
namespace Jvm.OwnWP
open Sem ClassFile Op Lib Jvm.Stand Jvm.Free Jvm.LawKit Jvm.RoadKit
section W
variable {l : Launch} {B : Bod} {Z : State} {n0 : Nat} {Q : Option Value → Heap → Prop} {h : Heap} {cs sl pc pc' : Nat} {ls ls' : Array Slot} {st rest : List Value} {a0 : Array Value} {a b : Addr} {ty : FieldType} {vs us : List Value}
/-- System.arraycopy of a primitive array's stretch -/
theorem WP.acopy {idx : Nat} {x y n : Int32} (i j k : Nat) (hd : decode B.bytes pc = .ok (.invokestatic idx, 3)) (w1 : (Cond.methodLink B.own idx acN).before a0 Z = true) (w2 : (Cond.native acN).before a0 Z = true) (w3 : (Cond.static acN).before a0 Z = true) (w4 : (Cond.initialized "java/lang/System").before a0 Z = true)
    (A : Av Z h a ty vs) (D : Av Z h b ty us) (hty : ty.isReference = false) (hx : x.toInt = (i : Int)) (hy : y.toInt = (j : Int)) (hn : n.toInt = (k : Int)) (h1 : i + k ≤ vs.length) (h2 : j + k ≤ us.length) (hfit : ∀ (q : Nat) (v : Value), vs[q]? = some v → fits ty v = true) (hbb : n0 ≤ b) (hls : ls.size = B.maxL) (hf : 1 ≤ B.room.frames)
    (hlo : (rest.map fun v => v.category).sum + (nativeFrameWords "java/lang/System" "arraycopy" 5 + 11) ≤ B.room.locals) (hp : pc + 3 = pc')
    (H : ∀ h' us', Keep h h' [b] → Av Z h' b ty us' → us'.length = us.length → (∀ q, us'[q]? = if j ≤ q ∧ q < j + k then vs[i + (q - j)]? else us[q]?) → WP l B Z n0 Q h' cs sl pc' ls rest) : WP l B Z n0 Q h cs sl pc ls (.int n :: .int y :: .ref b :: .int x :: .ref a :: rest) := by
  subst hp
  obtain ⟨ca, Aa, ra, qa⟩ := A
  obtain ⟨cb, Ab, rb, qb⟩ := id D
  obtain ⟨x1, x2⟩ := own_idx hx
  obtain ⟨y1, y2⟩ := own_idx hy
  obtain ⟨n1, n2⟩ := own_idx hn
  have sa : ca.slots.size = vs.length := by rw [← ra]; simp
  have sb : cb.slots.size = us.length := by rw [← rb]; simp
  have hrk : refKind ty = false := by cases ty <;> first | rfl | (simp [FieldType.isReference] at hty)
  have hget : ∀ q, q < k → ∃ v, vs[i + q]? = some v ∧ ca.slots.getD (i + q) .null = v := fun q hq => by
    have hlt : i + q < vs.length := by omega
    refine ⟨vs[i + q], List.getElem?_eq_getElem hlt, ?_⟩
    subst ra
    have hlt' : i + q < ca.slots.size := by simpa using hlt
    simp [Array.getD, hlt']
  have hstr : ca.stretch i k = (vs.drop i).take k := by
    apply List.ext_getElem?
    intro q
    simp only [Cell.stretch, List.getElem?_map, List.getElem?_take, List.getElem?_drop]
    by_cases hq : q < k
    · obtain ⟨v, e1, e2⟩ := hget q hq
      rw [if_pos hq, e1]
      simp only [List.getElem?_range hq, Option.map_some]
      rw [e2]
    · rw [if_neg hq]
      simp [Nat.not_lt.mp hq]
  have hlen : (ca.stretch i k).length = k := by simp [Cell.stretch]
  refine WP.stepT (cs' := cs) (sl' := sl) (P := fun h' => Keep h h' [b] ∧ ∃ us', Av Z h' b ty us' ∧ us'.length = us.length ∧ ∀ q, us'[q]? = if j ≤ q ∧ q < j + k then vs[i + (q - j)]? else us[q]?) ?_ (fun h' q => by obtain ⟨q1, us', q2, q3, q4⟩ := q; exact H h' us' q1 q2 q3 q4)
  intro p e s m args below meth c T L C X hT N hn'
  obtain ⟨-, ka, ca1, compa, ka2⟩ := State.isArrayOf_alike C.2.1.alike Aa.2.1
  obtain ⟨-, kb, cb1, compb, kb2⟩ := State.isArrayOf_alike C.2.1.alike Ab.2.1
  have nsa : ∀ q, ca.vm ≠ .statics q := fun q e => by have := Arr.plain Aa; rw [e] at this; cases this
  have nsb : ∀ q, cb.vm ≠ .statics q := fun q e => by have := Arr.plain Ab; rw [e] at this; cases this
  obtain ⟨vm1, -, X1, stp⟩ := X.arraycopyK C.1 C.2.2.1 (mvT C.2.1 w1) (mvT C.2.1 w2) (mvT C.2.1 w3) (mvT C.2.1 w4) (src := a) (dst := b) (srcPos := x) (destPos := y) (n := n) (cs := ca) (cd := cb) (by rw [hT]; exact Aa.1) (by rw [hT]; exact Ab.1) nsa nsb Aa.2.2 Ab.2.2 ca1 cb1 ka2 kb2 (by simp [hrk]) x2 y2 n2 (by rw [sa]; omega) (by rw [sb]; omega)
    (fun vm1 _ q hq => by
      rw [n1] at hq
      obtain ⟨v, e1, e2⟩ := hget q hq
      rw [x1, e2]
      have hf := hfit _ _ e1
      refine ⟨hf, ?_⟩
      cases v with
      | ref z => cases ty <;> first | (simp [fits] at hf; done) | (simp [FieldType.isReference] at hty; done)
      | _ => trivial)
    (g := mkF m pc ls (.int n :: .int y :: .ref b :: .int x :: .ref a :: rest)) rfl (by rw [C.2.2.2.2.1]; exact hls) rfl (hb C.2.2.2.1 hd) hf (by show 2 * 0 + _ + _ ≤ _; omega)
  have hlt : b < h.size := D.lt
  have eh : ((T.setVm vm1).setCell b (copied ca cb x y n)).heap = h.setIfInBounds b (copied ca cb x y n) := by rw [← hT]; rfl
  have fc := cb.storeRun_facts y.toNatClampNeg (ca.stretch x.toNatClampNeg n.toNatClampNeg)
  refine ⟨_, _, _, X1, eh, N.app (fun z hz => by rw [copyLocs_base hz]; exact hbb), by simpa using hn', ⟨⟨by simp, fun z cz hz hzn => ?_, fun z cz hz => ?_⟩, (copied ca cb x y n).slots.toList, ⟨_, ⟨by simp [hlt], ?_, ?_⟩, rfl, ?_⟩, ?_, fun q => ?_⟩, stp⟩
  · rw [Array.getElem?_setIfInBounds_ne (fun e => hzn (by simp [e]))]; exact hz
  · by_cases e : b = z
    · subst e
      cases Ab.1.symm.trans hz
      exact ⟨_, by simp [hlt], fc.1, fc.2.1, fc.2.2.1⟩
    · exact ⟨cz, by rw [Array.getElem?_setIfInBounds_ne e]; exact hz, rfl, rfl, rfl⟩
  · obtain ⟨q1, k, q2, q3⟩ := Ab.2.1
    exact ⟨by rw [show (copied ca cb x y n).vm = cb.vm from fc.2.1]; exact q1, k, by rw [show (copied ca cb x y n).cls = cb.cls from fc.1]; exact q2, q3⟩
  · rw [show (copied ca cb x y n).vm = cb.vm from fc.2.1]; exact Ab.2.2
  · have : (copied ca cb x y n).slots.size = cb.slots.size := fc.2.2.1
    simp only [Array.length_toList]; rw [this, sb]; exact qb
  · have : (copied ca cb x y n).slots.size = cb.slots.size := fc.2.2.1
    simp only [Array.length_toList]; rw [this, sb]
  · have g := Cell.storeRun_get cb j (ca.stretch i k) q (by rw [hlen, sb]; exact h2)
    rw [hlen] at g
    have e0 : (copied ca cb x y n) = cb.storeRun j (ca.stretch i k) := by show cb.storeRun y.toNatClampNeg (ca.stretch x.toNatClampNeg n.toNatClampNeg) = _; rw [x1, y1, n1]
    rw [e0, Array.getElem?_toList, g, hstr]
    by_cases hq : j ≤ q ∧ q < j + k
    · rw [if_pos hq, if_pos hq]
      simp only [List.getElem?_take, List.getElem?_drop]
      rw [if_pos (by omega)]
    · rw [if_neg hq, if_neg hq, ← rb]; simp
end W
end Jvm.OwnWP


namespace Jvm.Pilot.@@N@@
open Jvm Jvm.ClassFile Sem Op Lib Jvm.Free Jvm.Stand Jvm.LawKit Jvm.RoadKit Jvm.OwnWP Bundle Jvm.Pilot.@@N@@.Jvm.D

abbrev HW (Z : State) (a0 : Array Value) : Prop := ∀ d ∈ tables_1, d.before a0 Z = true
theorem w0 {Z : State} {a0 : Array Value} (hw : HW Z a0) : ((Jvm.Cond.arrayClass Jvm.ClassFile.FieldType.long)).before a0 Z = true := hw _ (List.mem_of_getElem? (i := 0) rfl)
theorem w1 {Z : State} {a0 : Array Value} (hw : HW Z a0) : ((Jvm.Cond.constantLong "com/example/apportion/apportion/IdleGapsFloorPinLaw" (9 : Nat) (9223372036854448127 : Int64))).before a0 Z = true := hw _ (List.mem_of_getElem? (i := 1) rfl)
theorem w2 {Z : State} {a0 : Array Value} (hw : HW Z a0) : ((Jvm.Cond.methodLink "com/example/apportion/apportion/IdleGapsFloorPinLaw" (11 : Nat) ({ cls := "java/lang/Math", name := "min", desc := "(JJ)J" } : Jvm.MethodName))).before a0 Z = true := hw _ (List.mem_of_getElem? (i := 2) rfl)
theorem w3 {Z : State} {a0 : Array Value} (hw : HW Z a0) : ((Jvm.Cond.static ({ cls := "java/lang/Math", name := "min", desc := "(JJ)J" } : Jvm.MethodName))).before a0 Z = true := hw _ (List.mem_of_getElem? (i := 3) rfl)
theorem w4 {Z : State} {a0 : Array Value} (hw : HW Z a0) : ((Jvm.Cond.initialized "java/lang/Math")).before a0 Z = true := hw _ (List.mem_of_getElem? (i := 4) rfl)
theorem w5 {Z : State} {a0 : Array Value} (hw : HW Z a0) : ((Jvm.Cond.code ({ cls := "java/lang/Math", name := "min", desc := "(JJ)J" } : Jvm.MethodName) jdk_29_method_70_code (4 : Nat) (Option.some Jvm.ClassFile.FieldType.long))).before a0 Z = true := hw _ (List.mem_of_getElem? (i := 5) rfl)
theorem w6 {Z : State} {a0 : Array Value} (hw : HW Z a0) : ((Jvm.Cond.constantLong "com/example/apportion/apportion/IdleGapsFloorPinLaw" (17 : Nat) (2 : Int64))).before a0 Z = true := hw _ (List.mem_of_getElem? (i := 6) rfl)
theorem w7 {Z : State} {a0 : Array Value} (hw : HW Z a0) : ((Jvm.Cond.constantLong "com/example/apportion/apportion/IdleGapsFloorPinLaw" (19 : Nat) (65535 : Int64))).before a0 Z = true := hw _ (List.mem_of_getElem? (i := 7) rfl)
theorem w8 {Z : State} {a0 : Array Value} (hw : HW Z a0) : ((Jvm.Cond.classLink "com/example/apportion/apportion/IdleGapsFloorPinLaw" (21 : Nat) "com/example/apportion/apportion/IdleGaps")).before a0 Z = true := hw _ (List.mem_of_getElem? (i := 8) rfl)
theorem w9 {Z : State} {a0 : Array Value} (hw : HW Z a0) : ((Jvm.Cond.instantiable "com/example/apportion/apportion/IdleGaps" (4 : Nat))).before a0 Z = true := hw _ (List.mem_of_getElem? (i := 9) rfl)
theorem w10 {Z : State} {a0 : Array Value} (hw : HW Z a0) : ((Jvm.Cond.initialized "com/example/apportion/apportion/IdleGaps")).before a0 Z = true := hw _ (List.mem_of_getElem? (i := 10) rfl)
theorem w11 {Z : State} {a0 : Array Value} (hw : HW Z a0) : ((Jvm.Cond.methodLink "com/example/apportion/apportion/IdleGapsFloorPinLaw" (23 : Nat) ({ cls := "com/example/apportion/apportion/IdleGaps", name := "<init>", desc := "(J)V" } : Jvm.MethodName))).before a0 Z = true := hw _ (List.mem_of_getElem? (i := 11) rfl)
theorem w12 {Z : State} {a0 : Array Value} (hw : HW Z a0) : ((Jvm.Cond.instanceMethod ({ cls := "com/example/apportion/apportion/IdleGaps", name := "<init>", desc := "(J)V" } : Jvm.MethodName))).before a0 Z = true := hw _ (List.mem_of_getElem? (i := 12) rfl)
theorem w13 {Z : State} {a0 : Array Value} (hw : HW Z a0) : ((Jvm.Cond.code ({ cls := "com/example/apportion/apportion/IdleGaps", name := "<init>", desc := "(J)V" } : Jvm.MethodName) prog_97_method_1_code (3 : Nat) (Option.none : Option Jvm.ClassFile.FieldType))).before a0 Z = true := hw _ (List.mem_of_getElem? (i := 13) rfl)
theorem w14 {Z : State} {a0 : Array Value} (hw : HW Z a0) : ((Jvm.Cond.methodLink "com/example/apportion/apportion/IdleGaps" (1 : Nat) ({ cls := "java/lang/Object", name := "<init>", desc := "()V" } : Jvm.MethodName))).before a0 Z = true := hw _ (List.mem_of_getElem? (i := 14) rfl)
theorem w15 {Z : State} {a0 : Array Value} (hw : HW Z a0) : ((Jvm.Cond.instanceMethod ({ cls := "java/lang/Object", name := "<init>", desc := "()V" } : Jvm.MethodName))).before a0 Z = true := hw _ (List.mem_of_getElem? (i := 15) rfl)
theorem w16 {Z : State} {a0 : Array Value} (hw : HW Z a0) : ((Jvm.Cond.code ({ cls := "java/lang/Object", name := "<init>", desc := "()V" } : Jvm.MethodName) object_method_1_code (1 : Nat) (Option.none : Option Jvm.ClassFile.FieldType))).before a0 Z = true := hw _ (List.mem_of_getElem? (i := 16) rfl)
theorem w17 {Z : State} {a0 : Array Value} (hw : HW Z a0) : ((Jvm.Cond.fieldLink "com/example/apportion/apportion/IdleGaps" (7 : Nat) "com/example/apportion/apportion/IdleGaps" "starts" "[J")).before a0 Z = true := hw _ (List.mem_of_getElem? (i := 17) rfl)
theorem w18 {Z : State} {a0 : Array Value} (hw : HW Z a0) : ((Jvm.Cond.lays "com/example/apportion/apportion/IdleGaps" "com/example/apportion/apportion/IdleGaps" "starts" "[J")).before a0 Z = true := hw _ (List.mem_of_getElem? (i := 18) rfl)
theorem w19 {Z : State} {a0 : Array Value} (hw : HW Z a0) : ((Jvm.Cond.fieldLink "com/example/apportion/apportion/IdleGaps" (13 : Nat) "com/example/apportion/apportion/IdleGaps" "ends" "[J")).before a0 Z = true := hw _ (List.mem_of_getElem? (i := 19) rfl)
theorem w20 {Z : State} {a0 : Array Value} (hw : HW Z a0) : ((Jvm.Cond.lays "com/example/apportion/apportion/IdleGaps" "com/example/apportion/apportion/IdleGaps" "ends" "[J")).before a0 Z = true := hw _ (List.mem_of_getElem? (i := 20) rfl)
theorem w21 {Z : State} {a0 : Array Value} (hw : HW Z a0) : ((Jvm.Cond.fieldLink "com/example/apportion/apportion/IdleGaps" (16 : Nat) "com/example/apportion/apportion/IdleGaps" "first" "I")).before a0 Z = true := hw _ (List.mem_of_getElem? (i := 21) rfl)
theorem w22 {Z : State} {a0 : Array Value} (hw : HW Z a0) : ((Jvm.Cond.lays "com/example/apportion/apportion/IdleGaps" "com/example/apportion/apportion/IdleGaps" "first" "I")).before a0 Z = true := hw _ (List.mem_of_getElem? (i := 22) rfl)
theorem w23 {Z : State} {a0 : Array Value} (hw : HW Z a0) : ((Jvm.Cond.fieldLink "com/example/apportion/apportion/IdleGaps" (20 : Nat) "com/example/apportion/apportion/IdleGaps" "last" "I")).before a0 Z = true := hw _ (List.mem_of_getElem? (i := 23) rfl)
theorem w24 {Z : State} {a0 : Array Value} (hw : HW Z a0) : ((Jvm.Cond.lays "com/example/apportion/apportion/IdleGaps" "com/example/apportion/apportion/IdleGaps" "last" "I")).before a0 Z = true := hw _ (List.mem_of_getElem? (i := 24) rfl)
theorem w25 {Z : State} {a0 : Array Value} (hw : HW Z a0) : ((Jvm.Cond.constantLong "com/example/apportion/apportion/IdleGaps" (25 : Nat) (9223372036854775807 : Int64))).before a0 Z = true := hw _ (List.mem_of_getElem? (i := 25) rfl)
theorem w26 {Z : State} {a0 : Array Value} (hw : HW Z a0) : ((Jvm.Cond.methodLink "com/example/apportion/apportion/IdleGapsFloorPinLaw" (26 : Nat) ({ cls := "com/example/apportion/apportion/IdleGaps", name := "clear", desc := "()V" } : Jvm.MethodName))).before a0 Z = true := hw _ (List.mem_of_getElem? (i := 26) rfl)
theorem w27 {Z : State} {a0 : Array Value} (hw : HW Z a0) : ((Jvm.Cond.declares ({ cls := "com/example/apportion/apportion/IdleGaps", name := "clear", desc := "()V" } : Jvm.MethodName))).before a0 Z = true := hw _ (List.mem_of_getElem? (i := 27) rfl)
theorem w28 {Z : State} {a0 : Array Value} (hw : HW Z a0) : ((Jvm.Cond.instanceMethod ({ cls := "com/example/apportion/apportion/IdleGaps", name := "clear", desc := "()V" } : Jvm.MethodName))).before a0 Z = true := hw _ (List.mem_of_getElem? (i := 28) rfl)
theorem w29 {Z : State} {a0 : Array Value} (hw : HW Z a0) : ((Jvm.Cond.selects "com/example/apportion/apportion/IdleGaps" ({ cls := "com/example/apportion/apportion/IdleGaps", name := "clear", desc := "()V" } : Jvm.MethodName) ({ cls := "com/example/apportion/apportion/IdleGaps", name := "clear", desc := "()V" } : Jvm.MethodName))).before a0 Z = true := hw _ (List.mem_of_getElem? (i := 29) rfl)
theorem w30 {Z : State} {a0 : Array Value} (hw : HW Z a0) : ((Jvm.Cond.code ({ cls := "com/example/apportion/apportion/IdleGaps", name := "clear", desc := "()V" } : Jvm.MethodName) prog_97_method_8_code (1 : Nat) (Option.none : Option Jvm.ClassFile.FieldType))).before a0 Z = true := hw _ (List.mem_of_getElem? (i := 30) rfl)
theorem w31 {Z : State} {a0 : Array Value} (hw : HW Z a0) : ((Jvm.Cond.methodLink "com/example/apportion/apportion/IdleGapsFloorPinLaw" (29 : Nat) ({ cls := "com/example/apportion/apportion/IdleGapsFloorPinLaw", name := "endOf", desc := "([JII)J" } : Jvm.MethodName))).before a0 Z = true := hw _ (List.mem_of_getElem? (i := 31) rfl)
theorem w32 {Z : State} {a0 : Array Value} (hw : HW Z a0) : ((Jvm.Cond.static ({ cls := "com/example/apportion/apportion/IdleGapsFloorPinLaw", name := "endOf", desc := "([JII)J" } : Jvm.MethodName))).before a0 Z = true := hw _ (List.mem_of_getElem? (i := 32) rfl)
theorem w33 {Z : State} {a0 : Array Value} (hw : HW Z a0) : ((Jvm.Cond.initialized "com/example/apportion/apportion/IdleGapsFloorPinLaw")).before a0 Z = true := hw _ (List.mem_of_getElem? (i := 33) rfl)
theorem w34 {Z : State} {a0 : Array Value} (hw : HW Z a0) : ((Jvm.Cond.code ({ cls := "com/example/apportion/apportion/IdleGapsFloorPinLaw", name := "endOf", desc := "([JII)J" } : Jvm.MethodName) method_3_code (3 : Nat) (Option.some Jvm.ClassFile.FieldType.long))).before a0 Z = true := hw _ (List.mem_of_getElem? (i := 34) rfl)
theorem w35 {Z : State} {a0 : Array Value} (hw : HW Z a0) : ((Jvm.Cond.methodLink "com/example/apportion/apportion/IdleGapsFloorPinLaw" (35 : Nat) ({ cls := "com/example/apportion/apportion/IdleGaps", name := "append", desc := "(JJ)V" } : Jvm.MethodName))).before a0 Z = true := hw _ (List.mem_of_getElem? (i := 35) rfl)
theorem w36 {Z : State} {a0 : Array Value} (hw : HW Z a0) : ((Jvm.Cond.declares ({ cls := "com/example/apportion/apportion/IdleGaps", name := "append", desc := "(JJ)V" } : Jvm.MethodName))).before a0 Z = true := hw _ (List.mem_of_getElem? (i := 36) rfl)
theorem w37 {Z : State} {a0 : Array Value} (hw : HW Z a0) : ((Jvm.Cond.instanceMethod ({ cls := "com/example/apportion/apportion/IdleGaps", name := "append", desc := "(JJ)V" } : Jvm.MethodName))).before a0 Z = true := hw _ (List.mem_of_getElem? (i := 37) rfl)
theorem w38 {Z : State} {a0 : Array Value} (hw : HW Z a0) : ((Jvm.Cond.selects "com/example/apportion/apportion/IdleGaps" ({ cls := "com/example/apportion/apportion/IdleGaps", name := "append", desc := "(JJ)V" } : Jvm.MethodName) ({ cls := "com/example/apportion/apportion/IdleGaps", name := "append", desc := "(JJ)V" } : Jvm.MethodName))).before a0 Z = true := hw _ (List.mem_of_getElem? (i := 38) rfl)
theorem w39 {Z : State} {a0 : Array Value} (hw : HW Z a0) : ((Jvm.Cond.code ({ cls := "com/example/apportion/apportion/IdleGaps", name := "append", desc := "(JJ)V" } : Jvm.MethodName) prog_97_method_9_code (5 : Nat) (Option.none : Option Jvm.ClassFile.FieldType))).before a0 Z = true := hw _ (List.mem_of_getElem? (i := 39) rfl)
theorem w40 {Z : State} {a0 : Array Value} (hw : HW Z a0) : ((Jvm.Cond.constantLong "com/example/apportion/apportion/IdleGapsFloorPinLaw" (50 : Nat) (9223372036854775807 : Int64))).before a0 Z = true := hw _ (List.mem_of_getElem? (i := 40) rfl)
theorem w41 {Z : State} {a0 : Array Value} (hw : HW Z a0) : ((Jvm.Cond.methodLink "com/example/apportion/apportion/IdleGapsFloorPinLaw" (42 : Nat) ({ cls := "com/example/apportion/apportion/IdleGapsFloorPinLaw", name := "in", desc := "([JIIIJ)I" } : Jvm.MethodName))).before a0 Z = true := hw _ (List.mem_of_getElem? (i := 41) rfl)
theorem w42 {Z : State} {a0 : Array Value} (hw : HW Z a0) : ((Jvm.Cond.static ({ cls := "com/example/apportion/apportion/IdleGapsFloorPinLaw", name := "in", desc := "([JIIIJ)I" } : Jvm.MethodName))).before a0 Z = true := hw _ (List.mem_of_getElem? (i := 42) rfl)
theorem w43 {Z : State} {a0 : Array Value} (hw : HW Z a0) : ((Jvm.Cond.code ({ cls := "com/example/apportion/apportion/IdleGapsFloorPinLaw", name := "in", desc := "([JIIIJ)I" } : Jvm.MethodName) method_4_code (6 : Nat) (Option.some Jvm.ClassFile.FieldType.int))).before a0 Z = true := hw _ (List.mem_of_getElem? (i := 43) rfl)
theorem w44 {Z : State} {a0 : Array Value} (hw : HW Z a0) : ((Jvm.Cond.methodLink "com/example/apportion/apportion/IdleGapsFloorPinLaw" (46 : Nat) ({ cls := "com/example/apportion/apportion/IdleGaps", name := "floor", desc := "(J)I" } : Jvm.MethodName))).before a0 Z = true := hw _ (List.mem_of_getElem? (i := 44) rfl)
theorem w45 {Z : State} {a0 : Array Value} (hw : HW Z a0) : ((Jvm.Cond.declares ({ cls := "com/example/apportion/apportion/IdleGaps", name := "floor", desc := "(J)I" } : Jvm.MethodName))).before a0 Z = true := hw _ (List.mem_of_getElem? (i := 45) rfl)
theorem w46 {Z : State} {a0 : Array Value} (hw : HW Z a0) : ((Jvm.Cond.instanceMethod ({ cls := "com/example/apportion/apportion/IdleGaps", name := "floor", desc := "(J)I" } : Jvm.MethodName))).before a0 Z = true := hw _ (List.mem_of_getElem? (i := 46) rfl)
theorem w47 {Z : State} {a0 : Array Value} (hw : HW Z a0) : ((Jvm.Cond.selects "com/example/apportion/apportion/IdleGaps" ({ cls := "com/example/apportion/apportion/IdleGaps", name := "floor", desc := "(J)I" } : Jvm.MethodName) ({ cls := "com/example/apportion/apportion/IdleGaps", name := "floor", desc := "(J)I" } : Jvm.MethodName))).before a0 Z = true := hw _ (List.mem_of_getElem? (i := 47) rfl)
theorem w48 {Z : State} {a0 : Array Value} (hw : HW Z a0) : ((Jvm.Cond.code ({ cls := "com/example/apportion/apportion/IdleGaps", name := "floor", desc := "(J)I" } : Jvm.MethodName) prog_97_method_5_code (6 : Nat) (Option.some Jvm.ClassFile.FieldType.int))).before a0 Z = true := hw _ (List.mem_of_getElem? (i := 48) rfl)
theorem w49 {Z : State} {a0 : Array Value} (hw : HW Z a0) : ((Jvm.Cond.methodLink "com/example/apportion/apportion/IdleGapsFloorPinLaw" (39 : Nat) ({ cls := "com/example/apportion/apportion/IdleGaps", name := "dropFirst", desc := "()V" } : Jvm.MethodName))).before a0 Z = true := hw _ (List.mem_of_getElem? (i := 49) rfl)
theorem w50 {Z : State} {a0 : Array Value} (hw : HW Z a0) : ((Jvm.Cond.declares ({ cls := "com/example/apportion/apportion/IdleGaps", name := "dropFirst", desc := "()V" } : Jvm.MethodName))).before a0 Z = true := hw _ (List.mem_of_getElem? (i := 50) rfl)
theorem w51 {Z : State} {a0 : Array Value} (hw : HW Z a0) : ((Jvm.Cond.instanceMethod ({ cls := "com/example/apportion/apportion/IdleGaps", name := "dropFirst", desc := "()V" } : Jvm.MethodName))).before a0 Z = true := hw _ (List.mem_of_getElem? (i := 51) rfl)
theorem w52 {Z : State} {a0 : Array Value} (hw : HW Z a0) : ((Jvm.Cond.selects "com/example/apportion/apportion/IdleGaps" ({ cls := "com/example/apportion/apportion/IdleGaps", name := "dropFirst", desc := "()V" } : Jvm.MethodName) ({ cls := "com/example/apportion/apportion/IdleGaps", name := "dropFirst", desc := "()V" } : Jvm.MethodName))).before a0 Z = true := hw _ (List.mem_of_getElem? (i := 52) rfl)
theorem w53 {Z : State} {a0 : Array Value} (hw : HW Z a0) : ((Jvm.Cond.code ({ cls := "com/example/apportion/apportion/IdleGaps", name := "dropFirst", desc := "()V" } : Jvm.MethodName) prog_97_method_7_code (1 : Nat) (Option.none : Option Jvm.ClassFile.FieldType))).before a0 Z = true := hw _ (List.mem_of_getElem? (i := 53) rfl)
theorem w54 {Z : State} {a0 : Array Value} (hw : HW Z a0) : ((Jvm.Cond.methodLink "com/example/apportion/apportion/IdleGaps" (35 : Nat) ({ cls := "com/example/apportion/apportion/IdleGaps", name := "spread", desc := "()V" } : Jvm.MethodName))).before a0 Z = true := hw _ (List.mem_of_getElem? (i := 54) rfl)
theorem w55 {Z : State} {a0 : Array Value} (hw : HW Z a0) : ((Jvm.Cond.instanceMethod ({ cls := "com/example/apportion/apportion/IdleGaps", name := "spread", desc := "()V" } : Jvm.MethodName))).before a0 Z = true := hw _ (List.mem_of_getElem? (i := 55) rfl)
theorem w56 {Z : State} {a0 : Array Value} (hw : HW Z a0) : ((Jvm.Cond.privateMethod ({ cls := "com/example/apportion/apportion/IdleGaps", name := "spread", desc := "()V" } : Jvm.MethodName))).before a0 Z = true := hw _ (List.mem_of_getElem? (i := 56) rfl)
theorem w57 {Z : State} {a0 : Array Value} (hw : HW Z a0) : ((Jvm.Cond.code ({ cls := "com/example/apportion/apportion/IdleGaps", name := "spread", desc := "()V" } : Jvm.MethodName) prog_97_method_14_code (4 : Nat) (Option.none : Option Jvm.ClassFile.FieldType))).before a0 Z = true := hw _ (List.mem_of_getElem? (i := 57) rfl)
theorem w58 {Z : State} {a0 : Array Value} (hw : HW Z a0) : ((Jvm.Cond.methodLink "com/example/apportion/apportion/IdleGaps" (52 : Nat) ({ cls := "com/example/apportion/apportion/IdleGaps", name := "size", desc := "()I" } : Jvm.MethodName))).before a0 Z = true := hw _ (List.mem_of_getElem? (i := 58) rfl)
theorem w59 {Z : State} {a0 : Array Value} (hw : HW Z a0) : ((Jvm.Cond.declares ({ cls := "com/example/apportion/apportion/IdleGaps", name := "size", desc := "()I" } : Jvm.MethodName))).before a0 Z = true := hw _ (List.mem_of_getElem? (i := 59) rfl)
theorem w60 {Z : State} {a0 : Array Value} (hw : HW Z a0) : ((Jvm.Cond.instanceMethod ({ cls := "com/example/apportion/apportion/IdleGaps", name := "size", desc := "()I" } : Jvm.MethodName))).before a0 Z = true := hw _ (List.mem_of_getElem? (i := 60) rfl)
theorem w61 {Z : State} {a0 : Array Value} (hw : HW Z a0) : ((Jvm.Cond.selects "com/example/apportion/apportion/IdleGaps" ({ cls := "com/example/apportion/apportion/IdleGaps", name := "size", desc := "()I" } : Jvm.MethodName) ({ cls := "com/example/apportion/apportion/IdleGaps", name := "size", desc := "()I" } : Jvm.MethodName))).before a0 Z = true := hw _ (List.mem_of_getElem? (i := 61) rfl)
theorem w62 {Z : State} {a0 : Array Value} (hw : HW Z a0) : ((Jvm.Cond.code ({ cls := "com/example/apportion/apportion/IdleGaps", name := "size", desc := "()I" } : Jvm.MethodName) prog_97_method_2_code (1 : Nat) (Option.some Jvm.ClassFile.FieldType.int))).before a0 Z = true := hw _ (List.mem_of_getElem? (i := 62) rfl)
theorem w63 {Z : State} {a0 : Array Value} (hw : HW Z a0) : ((Jvm.Cond.methodLink "com/example/apportion/apportion/IdleGaps" (56 : Nat) ({ cls := "java/lang/Math", name := "max", desc := "(II)I" } : Jvm.MethodName))).before a0 Z = true := hw _ (List.mem_of_getElem? (i := 63) rfl)
theorem w64 {Z : State} {a0 : Array Value} (hw : HW Z a0) : ((Jvm.Cond.static ({ cls := "java/lang/Math", name := "max", desc := "(II)I" } : Jvm.MethodName))).before a0 Z = true := hw _ (List.mem_of_getElem? (i := 64) rfl)
theorem w65 {Z : State} {a0 : Array Value} (hw : HW Z a0) : ((Jvm.Cond.code ({ cls := "java/lang/Math", name := "max", desc := "(II)I" } : Jvm.MethodName) jdk_29_method_65_code (2 : Nat) (Option.some Jvm.ClassFile.FieldType.int))).before a0 Z = true := hw _ (List.mem_of_getElem? (i := 65) rfl)
theorem w66 {Z : State} {a0 : Array Value} (hw : HW Z a0) : ((Jvm.Cond.methodLink "com/example/apportion/apportion/IdleGaps" (46 : Nat) ({ cls := "java/lang/System", name := "arraycopy", desc := "(Ljava/lang/Object;ILjava/lang/Object;II)V" } : Jvm.MethodName))).before a0 Z = true := hw _ (List.mem_of_getElem? (i := 66) rfl)
theorem w67 {Z : State} {a0 : Array Value} (hw : HW Z a0) : ((Jvm.Cond.static ({ cls := "java/lang/System", name := "arraycopy", desc := "(Ljava/lang/Object;ILjava/lang/Object;II)V" } : Jvm.MethodName))).before a0 Z = true := hw _ (List.mem_of_getElem? (i := 67) rfl)
theorem w68 {Z : State} {a0 : Array Value} (hw : HW Z a0) : ((Jvm.Cond.initialized "java/lang/System")).before a0 Z = true := hw _ (List.mem_of_getElem? (i := 68) rfl)
theorem w69 {Z : State} {a0 : Array Value} (hw : HW Z a0) : ((Jvm.Cond.native ({ cls := "java/lang/System", name := "arraycopy", desc := "(Ljava/lang/Object;ILjava/lang/Object;II)V" } : Jvm.MethodName))).before a0 Z = true := hw _ (List.mem_of_getElem? (i := 69) rfl)
theorem pd_0 : parseMethodDescriptor "()I" = some ⟨[], some .int⟩ := by decide +kernel
theorem pd_1 : parseMethodDescriptor "(II)I" = some ⟨[.int, .int], some .int⟩ := by decide +kernel
theorem pd_2 : parseMethodDescriptor "()V" = some ⟨[], none⟩ := by decide +kernel
theorem pd_3 : parseMethodDescriptor "(J)V" = some ⟨[.long], none⟩ := by decide +kernel
theorem pd_4 : parseMethodDescriptor "([JIIIJ)I" = some ⟨[(.array .long), .int, .int, .int, .long], some .int⟩ := by decide +kernel
theorem pd_5 : parseMethodDescriptor "(J)I" = some ⟨[.long], some .int⟩ := by decide +kernel
theorem pd_6 : parseMethodDescriptor "([JII)J" = some ⟨[(.array .long), .int, .int], some .long⟩ := by decide +kernel
theorem pd_7 : parseMethodDescriptor "(JJ)V" = some ⟨[.long, .long], none⟩ := by decide +kernel
theorem pd_8 : parseMethodDescriptor "(JJ)J" = some ⟨[.long, .long], some .long⟩ := by decide +kernel
theorem d1_0 : decode jdk_29_method_70_code 0 = .ok (.lload_n 0, 1) := by decide +kernel
theorem d1_1 : decode jdk_29_method_70_code 1 = .ok (.lload_n 2, 1) := by decide +kernel
theorem d1_2 : decode jdk_29_method_70_code 2 = .ok (.lcmp, 1) := by decide +kernel
theorem d1_3 : decode jdk_29_method_70_code 3 = .ok (.ifCond .gt 7, 3) := by decide +kernel
theorem d1_6 : decode jdk_29_method_70_code 6 = .ok (.lload_n 0, 1) := by decide +kernel
theorem d1_7 : decode jdk_29_method_70_code 7 = .ok (.goto 4, 3) := by decide +kernel
theorem d1_10 : decode jdk_29_method_70_code 10 = .ok (.lload_n 2, 1) := by decide +kernel
theorem d1_11 : decode jdk_29_method_70_code 11 = .ok (.lreturn, 1) := by decide +kernel
theorem d2_0 : decode prog_97_method_1_code 0 = .ok (.aload_n 0, 1) := by decide +kernel
theorem d2_1 : decode prog_97_method_1_code 1 = .ok (.invokespecial 1, 3) := by decide +kernel
theorem d2_4 : decode prog_97_method_1_code 4 = .ok (.aload_n 0, 1) := by decide +kernel
theorem d2_5 : decode prog_97_method_1_code 5 = .ok (.iconst 4, 1) := by decide +kernel
theorem d2_6 : decode prog_97_method_1_code 6 = .ok (.newarray .long, 2) := by decide +kernel
theorem d2_8 : decode prog_97_method_1_code 8 = .ok (.putfield 7, 3) := by decide +kernel
theorem d2_11 : decode prog_97_method_1_code 11 = .ok (.aload_n 0, 1) := by decide +kernel
theorem d2_12 : decode prog_97_method_1_code 12 = .ok (.iconst 4, 1) := by decide +kernel
theorem d2_13 : decode prog_97_method_1_code 13 = .ok (.newarray .long, 2) := by decide +kernel
theorem d2_15 : decode prog_97_method_1_code 15 = .ok (.putfield 13, 3) := by decide +kernel
theorem d2_18 : decode prog_97_method_1_code 18 = .ok (.aload_n 0, 1) := by decide +kernel
theorem d2_19 : decode prog_97_method_1_code 19 = .ok (.iconst 1, 1) := by decide +kernel
theorem d2_20 : decode prog_97_method_1_code 20 = .ok (.putfield 16, 3) := by decide +kernel
theorem d2_23 : decode prog_97_method_1_code 23 = .ok (.aload_n 0, 1) := by decide +kernel
theorem d2_24 : decode prog_97_method_1_code 24 = .ok (.iconst 2, 1) := by decide +kernel
theorem d2_25 : decode prog_97_method_1_code 25 = .ok (.putfield 20, 3) := by decide +kernel
theorem d2_28 : decode prog_97_method_1_code 28 = .ok (.aload_n 0, 1) := by decide +kernel
theorem d2_29 : decode prog_97_method_1_code 29 = .ok (.getfield 7, 3) := by decide +kernel
theorem d2_32 : decode prog_97_method_1_code 32 = .ok (.aload_n 0, 1) := by decide +kernel
theorem d2_33 : decode prog_97_method_1_code 33 = .ok (.getfield 16, 3) := by decide +kernel
theorem d2_36 : decode prog_97_method_1_code 36 = .ok (.lload_n 1, 1) := by decide +kernel
theorem d2_37 : decode prog_97_method_1_code 37 = .ok (.lastore, 1) := by decide +kernel
theorem d2_38 : decode prog_97_method_1_code 38 = .ok (.aload_n 0, 1) := by decide +kernel
theorem d2_39 : decode prog_97_method_1_code 39 = .ok (.getfield 13, 3) := by decide +kernel
theorem d2_42 : decode prog_97_method_1_code 42 = .ok (.aload_n 0, 1) := by decide +kernel
theorem d2_43 : decode prog_97_method_1_code 43 = .ok (.getfield 16, 3) := by decide +kernel
theorem d2_46 : decode prog_97_method_1_code 46 = .ok (.ldc2_w 25, 3) := by decide +kernel
theorem d2_49 : decode prog_97_method_1_code 49 = .ok (.lastore, 1) := by decide +kernel
theorem d2_50 : decode prog_97_method_1_code 50 = .ok (.return_, 1) := by decide +kernel
theorem d4_0 : decode prog_97_method_8_code 0 = .ok (.aload_n 0, 1) := by decide +kernel
theorem d4_1 : decode prog_97_method_8_code 1 = .ok (.iconst 0, 1) := by decide +kernel
theorem d4_2 : decode prog_97_method_8_code 2 = .ok (.putfield 16, 3) := by decide +kernel
theorem d4_5 : decode prog_97_method_8_code 5 = .ok (.aload_n 0, 1) := by decide +kernel
theorem d4_6 : decode prog_97_method_8_code 6 = .ok (.iconst 0, 1) := by decide +kernel
theorem d4_7 : decode prog_97_method_8_code 7 = .ok (.putfield 20, 3) := by decide +kernel
theorem d4_10 : decode prog_97_method_8_code 10 = .ok (.return_, 1) := by decide +kernel
theorem d5_0 : decode method_3_code 0 = .ok (.iload_n 1, 1) := by decide +kernel
theorem d5_1 : decode method_3_code 1 = .ok (.iload_n 2, 1) := by decide +kernel
theorem d5_2 : decode method_3_code 2 = .ok (.iconst 1, 1) := by decide +kernel
theorem d5_3 : decode method_3_code 3 = .ok (.isub, 1) := by decide +kernel
theorem d5_4 : decode method_3_code 4 = .ok (.if_icmp .ne 9, 3) := by decide +kernel
theorem d5_7 : decode method_3_code 7 = .ok (.ldc2_w 50, 3) := by decide +kernel
theorem d5_10 : decode method_3_code 10 = .ok (.goto 8, 3) := by decide +kernel
theorem d5_13 : decode method_3_code 13 = .ok (.aload_n 0, 1) := by decide +kernel
theorem d5_14 : decode method_3_code 14 = .ok (.iload_n 1, 1) := by decide +kernel
theorem d5_15 : decode method_3_code 15 = .ok (.laload, 1) := by decide +kernel
theorem d5_16 : decode method_3_code 16 = .ok (.lconst 1, 1) := by decide +kernel
theorem d5_17 : decode method_3_code 17 = .ok (.ladd, 1) := by decide +kernel
theorem d5_18 : decode method_3_code 18 = .ok (.lreturn, 1) := by decide +kernel
theorem d6_0 : decode prog_97_method_9_code 0 = .ok (.aload_n 0, 1) := by decide +kernel
theorem d6_1 : decode prog_97_method_9_code 1 = .ok (.getfield 20, 3) := by decide +kernel
theorem d6_4 : decode prog_97_method_9_code 4 = .ok (.aload_n 0, 1) := by decide +kernel
theorem d6_5 : decode prog_97_method_9_code 5 = .ok (.getfield 7, 3) := by decide +kernel
theorem d6_8 : decode prog_97_method_9_code 8 = .ok (.arraylength, 1) := by decide +kernel
theorem d6_9 : decode prog_97_method_9_code 9 = .ok (.if_icmp .ne 7, 3) := by decide +kernel
theorem d6_12 : decode prog_97_method_9_code 12 = .ok (.aload_n 0, 1) := by decide +kernel
theorem d6_13 : decode prog_97_method_9_code 13 = .ok (.invokevirtual 35, 3) := by decide +kernel
theorem d6_16 : decode prog_97_method_9_code 16 = .ok (.aload_n 0, 1) := by decide +kernel
theorem d6_17 : decode prog_97_method_9_code 17 = .ok (.getfield 7, 3) := by decide +kernel
theorem d6_20 : decode prog_97_method_9_code 20 = .ok (.aload_n 0, 1) := by decide +kernel
theorem d6_21 : decode prog_97_method_9_code 21 = .ok (.getfield 20, 3) := by decide +kernel
theorem d6_24 : decode prog_97_method_9_code 24 = .ok (.lload_n 1, 1) := by decide +kernel
theorem d6_25 : decode prog_97_method_9_code 25 = .ok (.lastore, 1) := by decide +kernel
theorem d6_26 : decode prog_97_method_9_code 26 = .ok (.aload_n 0, 1) := by decide +kernel
theorem d6_27 : decode prog_97_method_9_code 27 = .ok (.getfield 13, 3) := by decide +kernel
theorem d6_30 : decode prog_97_method_9_code 30 = .ok (.aload_n 0, 1) := by decide +kernel
theorem d6_31 : decode prog_97_method_9_code 31 = .ok (.dup, 1) := by decide +kernel
theorem d6_32 : decode prog_97_method_9_code 32 = .ok (.getfield 20, 3) := by decide +kernel
theorem d6_35 : decode prog_97_method_9_code 35 = .ok (.dup_x1, 1) := by decide +kernel
theorem d6_36 : decode prog_97_method_9_code 36 = .ok (.iconst 1, 1) := by decide +kernel
theorem d6_37 : decode prog_97_method_9_code 37 = .ok (.iadd, 1) := by decide +kernel
theorem d6_38 : decode prog_97_method_9_code 38 = .ok (.putfield 20, 3) := by decide +kernel
theorem d6_41 : decode prog_97_method_9_code 41 = .ok (.lload_n 3, 1) := by decide +kernel
theorem d6_42 : decode prog_97_method_9_code 42 = .ok (.lastore, 1) := by decide +kernel
theorem d6_43 : decode prog_97_method_9_code 43 = .ok (.return_, 1) := by decide +kernel
theorem d7_0 : decode method_4_code 0 = .ok (.iload_n 1, 1) := by decide +kernel
theorem d7_1 : decode method_4_code 1 = .ok (.iload_n 2, 1) := by decide +kernel
theorem d7_2 : decode method_4_code 2 = .ok (.if_icmp .lt 21, 3) := by decide +kernel
theorem d7_5 : decode method_4_code 5 = .ok (.iload_n 1, 1) := by decide +kernel
theorem d7_6 : decode method_4_code 6 = .ok (.iload_n 3, 1) := by decide +kernel
theorem d7_7 : decode method_4_code 7 = .ok (.if_icmp .ge 16, 3) := by decide +kernel
theorem d7_10 : decode method_4_code 10 = .ok (.aload_n 0, 1) := by decide +kernel
theorem d7_11 : decode method_4_code 11 = .ok (.iload_n 1, 1) := by decide +kernel
theorem d7_12 : decode method_4_code 12 = .ok (.laload, 1) := by decide +kernel
theorem d7_13 : decode method_4_code 13 = .ok (.lload 4, 2) := by decide +kernel
theorem d7_15 : decode method_4_code 15 = .ok (.lcmp, 1) := by decide +kernel
theorem d7_16 : decode method_4_code 16 = .ok (.ifCond .gt 7, 3) := by decide +kernel
theorem d7_19 : decode method_4_code 19 = .ok (.iconst 1, 1) := by decide +kernel
theorem d7_20 : decode method_4_code 20 = .ok (.goto 4, 3) := by decide +kernel
theorem d7_23 : decode method_4_code 23 = .ok (.iconst 0, 1) := by decide +kernel
theorem d7_24 : decode method_4_code 24 = .ok (.ireturn, 1) := by decide +kernel
theorem d8_0 : decode prog_97_method_5_code 0 = .ok (.aload_n 0, 1) := by decide +kernel
theorem d8_1 : decode prog_97_method_5_code 1 = .ok (.getfield 16, 3) := by decide +kernel
theorem d8_4 : decode prog_97_method_5_code 4 = .ok (.istore_n 3, 1) := by decide +kernel
theorem d8_5 : decode prog_97_method_5_code 5 = .ok (.aload_n 0, 1) := by decide +kernel
theorem d8_6 : decode prog_97_method_5_code 6 = .ok (.getfield 20, 3) := by decide +kernel
theorem d8_9 : decode prog_97_method_5_code 9 = .ok (.istore 4, 2) := by decide +kernel
theorem d8_11 : decode prog_97_method_5_code 11 = .ok (.iload_n 3, 1) := by decide +kernel
theorem d8_12 : decode prog_97_method_5_code 12 = .ok (.iload 4, 2) := by decide +kernel
theorem d8_14 : decode prog_97_method_5_code 14 = .ok (.if_icmp .ge 38, 3) := by decide +kernel
theorem d8_17 : decode prog_97_method_5_code 17 = .ok (.iload_n 3, 1) := by decide +kernel
theorem d8_18 : decode prog_97_method_5_code 18 = .ok (.iload 4, 2) := by decide +kernel
theorem d8_20 : decode prog_97_method_5_code 20 = .ok (.iadd, 1) := by decide +kernel
theorem d8_21 : decode prog_97_method_5_code 21 = .ok (.iconst 1, 1) := by decide +kernel
theorem d8_22 : decode prog_97_method_5_code 22 = .ok (.iushr, 1) := by decide +kernel
theorem d8_23 : decode prog_97_method_5_code 23 = .ok (.istore 5, 2) := by decide +kernel
theorem d8_25 : decode prog_97_method_5_code 25 = .ok (.aload_n 0, 1) := by decide +kernel
theorem d8_26 : decode prog_97_method_5_code 26 = .ok (.getfield 7, 3) := by decide +kernel
theorem d8_29 : decode prog_97_method_5_code 29 = .ok (.iload 5, 2) := by decide +kernel
theorem d8_31 : decode prog_97_method_5_code 31 = .ok (.laload, 1) := by decide +kernel
theorem d8_32 : decode prog_97_method_5_code 32 = .ok (.lload_n 1, 1) := by decide +kernel
theorem d8_33 : decode prog_97_method_5_code 33 = .ok (.lcmp, 1) := by decide +kernel
theorem d8_34 : decode prog_97_method_5_code 34 = .ok (.ifCond .gt 11, 3) := by decide +kernel
theorem d8_37 : decode prog_97_method_5_code 37 = .ok (.iload 5, 2) := by decide +kernel
theorem d8_39 : decode prog_97_method_5_code 39 = .ok (.iconst 1, 1) := by decide +kernel
theorem d8_40 : decode prog_97_method_5_code 40 = .ok (.iadd, 1) := by decide +kernel
theorem d8_41 : decode prog_97_method_5_code 41 = .ok (.istore_n 3, 1) := by decide +kernel
theorem d8_42 : decode prog_97_method_5_code 42 = .ok (.goto 7, 3) := by decide +kernel
theorem d8_45 : decode prog_97_method_5_code 45 = .ok (.iload 5, 2) := by decide +kernel
theorem d8_47 : decode prog_97_method_5_code 47 = .ok (.istore 4, 2) := by decide +kernel
theorem d8_49 : decode prog_97_method_5_code 49 = .ok (.goto (-38), 3) := by decide +kernel
theorem d8_52 : decode prog_97_method_5_code 52 = .ok (.iload_n 3, 1) := by decide +kernel
theorem d8_53 : decode prog_97_method_5_code 53 = .ok (.iconst 1, 1) := by decide +kernel
theorem d8_54 : decode prog_97_method_5_code 54 = .ok (.isub, 1) := by decide +kernel
theorem d8_55 : decode prog_97_method_5_code 55 = .ok (.aload_n 0, 1) := by decide +kernel
theorem d8_56 : decode prog_97_method_5_code 56 = .ok (.getfield 16, 3) := by decide +kernel
theorem d8_59 : decode prog_97_method_5_code 59 = .ok (.isub, 1) := by decide +kernel
theorem d8_60 : decode prog_97_method_5_code 60 = .ok (.ireturn, 1) := by decide +kernel
theorem d9_0 : decode prog_97_method_7_code 0 = .ok (.aload_n 0, 1) := by decide +kernel
theorem d9_1 : decode prog_97_method_7_code 1 = .ok (.dup, 1) := by decide +kernel
theorem d9_2 : decode prog_97_method_7_code 2 = .ok (.getfield 16, 3) := by decide +kernel
theorem d9_5 : decode prog_97_method_7_code 5 = .ok (.iconst 1, 1) := by decide +kernel
theorem d9_6 : decode prog_97_method_7_code 6 = .ok (.iadd, 1) := by decide +kernel
theorem d9_7 : decode prog_97_method_7_code 7 = .ok (.putfield 16, 3) := by decide +kernel
theorem d9_10 : decode prog_97_method_7_code 10 = .ok (.return_, 1) := by decide +kernel
theorem d10_0 : decode prog_97_method_14_code 0 = .ok (.aload_n 0, 1) := by decide +kernel
theorem d10_1 : decode prog_97_method_14_code 1 = .ok (.invokevirtual 52, 3) := by decide +kernel
theorem d10_4 : decode prog_97_method_14_code 4 = .ok (.istore_n 1, 1) := by decide +kernel
theorem d10_5 : decode prog_97_method_14_code 5 = .ok (.iconst 4, 1) := by decide +kernel
theorem d10_6 : decode prog_97_method_14_code 6 = .ok (.iconst 2, 1) := by decide +kernel
theorem d10_7 : decode prog_97_method_14_code 7 = .ok (.iload_n 1, 1) := by decide +kernel
theorem d10_8 : decode prog_97_method_14_code 8 = .ok (.imul, 1) := by decide +kernel
theorem d10_9 : decode prog_97_method_14_code 9 = .ok (.invokestatic 56, 3) := by decide +kernel
theorem d10_12 : decode prog_97_method_14_code 12 = .ok (.newarray .long, 2) := by decide +kernel
theorem d10_14 : decode prog_97_method_14_code 14 = .ok (.astore_n 2, 1) := by decide +kernel
theorem d10_15 : decode prog_97_method_14_code 15 = .ok (.aload_n 2, 1) := by decide +kernel
theorem d10_16 : decode prog_97_method_14_code 16 = .ok (.arraylength, 1) := by decide +kernel
theorem d10_17 : decode prog_97_method_14_code 17 = .ok (.newarray .long, 2) := by decide +kernel
theorem d10_19 : decode prog_97_method_14_code 19 = .ok (.astore_n 3, 1) := by decide +kernel
theorem d10_20 : decode prog_97_method_14_code 20 = .ok (.aload_n 0, 1) := by decide +kernel
theorem d10_21 : decode prog_97_method_14_code 21 = .ok (.getfield 7, 3) := by decide +kernel
theorem d10_24 : decode prog_97_method_14_code 24 = .ok (.aload_n 0, 1) := by decide +kernel
theorem d10_25 : decode prog_97_method_14_code 25 = .ok (.getfield 16, 3) := by decide +kernel
theorem d10_28 : decode prog_97_method_14_code 28 = .ok (.aload_n 2, 1) := by decide +kernel
theorem d10_29 : decode prog_97_method_14_code 29 = .ok (.iconst 0, 1) := by decide +kernel
theorem d10_30 : decode prog_97_method_14_code 30 = .ok (.iload_n 1, 1) := by decide +kernel
theorem d10_31 : decode prog_97_method_14_code 31 = .ok (.invokestatic 46, 3) := by decide +kernel
theorem d10_34 : decode prog_97_method_14_code 34 = .ok (.aload_n 0, 1) := by decide +kernel
theorem d10_35 : decode prog_97_method_14_code 35 = .ok (.getfield 13, 3) := by decide +kernel
theorem d10_38 : decode prog_97_method_14_code 38 = .ok (.aload_n 0, 1) := by decide +kernel
theorem d10_39 : decode prog_97_method_14_code 39 = .ok (.getfield 16, 3) := by decide +kernel
theorem d10_42 : decode prog_97_method_14_code 42 = .ok (.aload_n 3, 1) := by decide +kernel
theorem d10_43 : decode prog_97_method_14_code 43 = .ok (.iconst 0, 1) := by decide +kernel
theorem d10_44 : decode prog_97_method_14_code 44 = .ok (.iload_n 1, 1) := by decide +kernel
theorem d10_45 : decode prog_97_method_14_code 45 = .ok (.invokestatic 46, 3) := by decide +kernel
theorem d10_48 : decode prog_97_method_14_code 48 = .ok (.aload_n 0, 1) := by decide +kernel
theorem d10_49 : decode prog_97_method_14_code 49 = .ok (.aload_n 2, 1) := by decide +kernel
theorem d10_50 : decode prog_97_method_14_code 50 = .ok (.putfield 7, 3) := by decide +kernel
theorem d10_53 : decode prog_97_method_14_code 53 = .ok (.aload_n 0, 1) := by decide +kernel
theorem d10_54 : decode prog_97_method_14_code 54 = .ok (.aload_n 3, 1) := by decide +kernel
theorem d10_55 : decode prog_97_method_14_code 55 = .ok (.putfield 13, 3) := by decide +kernel
theorem d10_58 : decode prog_97_method_14_code 58 = .ok (.aload_n 0, 1) := by decide +kernel
theorem d10_59 : decode prog_97_method_14_code 59 = .ok (.iconst 0, 1) := by decide +kernel
theorem d10_60 : decode prog_97_method_14_code 60 = .ok (.putfield 16, 3) := by decide +kernel
theorem d10_63 : decode prog_97_method_14_code 63 = .ok (.aload_n 0, 1) := by decide +kernel
theorem d10_64 : decode prog_97_method_14_code 64 = .ok (.iload_n 1, 1) := by decide +kernel
theorem d10_65 : decode prog_97_method_14_code 65 = .ok (.putfield 20, 3) := by decide +kernel
theorem d10_68 : decode prog_97_method_14_code 68 = .ok (.return_, 1) := by decide +kernel
theorem d11_0 : decode prog_97_method_2_code 0 = .ok (.aload_n 0, 1) := by decide +kernel
theorem d11_1 : decode prog_97_method_2_code 1 = .ok (.getfield 20, 3) := by decide +kernel
theorem d11_4 : decode prog_97_method_2_code 4 = .ok (.aload_n 0, 1) := by decide +kernel
theorem d11_5 : decode prog_97_method_2_code 5 = .ok (.getfield 16, 3) := by decide +kernel
theorem d11_8 : decode prog_97_method_2_code 8 = .ok (.isub, 1) := by decide +kernel
theorem d11_9 : decode prog_97_method_2_code 9 = .ok (.ireturn, 1) := by decide +kernel
theorem d12_0 : decode jdk_29_method_65_code 0 = .ok (.iload_n 0, 1) := by decide +kernel
theorem d12_1 : decode jdk_29_method_65_code 1 = .ok (.iload_n 1, 1) := by decide +kernel
theorem d12_2 : decode jdk_29_method_65_code 2 = .ok (.if_icmp .lt 7, 3) := by decide +kernel
theorem d12_5 : decode jdk_29_method_65_code 5 = .ok (.iload_n 0, 1) := by decide +kernel
theorem d12_6 : decode jdk_29_method_65_code 6 = .ok (.goto 4, 3) := by decide +kernel
theorem d12_9 : decode jdk_29_method_65_code 9 = .ok (.iload_n 1, 1) := by decide +kernel
theorem d12_10 : decode jdk_29_method_65_code 10 = .ok (.ireturn, 1) := by decide +kernel
def B0 : Bod := ("com/example/apportion/apportion/IdleGapsFloorPinLaw", "law", code, maxLocals, ret, room_1)
theorem pl0 : plainFor (⟨"com/example/apportion/apportion/IdleGapsFloorPinLaw", "law", "(JJJI)Z"⟩ : MethodName) = true := plainFor_of_name (by first | (simp [plainName, overriddenIn]; done) | decide +kernel)
def B1 : Bod := ("java/lang/Math", "min", jdk_29_method_70_code, 4, some .long, ({ frames := 0, cells := 0, slots := 0, locals := 0 } : Room))
theorem pl1 : plainFor (⟨"java/lang/Math", "min", "(JJ)J"⟩ : MethodName) = true := Jvm.Free.JP.mathPlain rfl (by decide +kernel)
def B2 : Bod := ("com/example/apportion/apportion/IdleGaps", "<init>", prog_97_method_1_code, 3, none, ({ frames := 1, cells := 2, slots := 8, locals := 12 } : Room))
theorem pl2 : plainFor (⟨"com/example/apportion/apportion/IdleGaps", "<init>", "(J)V"⟩ : MethodName) = true := plainFor_of_name (by first | (simp [plainName, overriddenIn]; done) | decide +kernel)
def B4 : Bod := ("com/example/apportion/apportion/IdleGaps", "clear", prog_97_method_8_code, 1, none, ({ frames := 0, cells := 0, slots := 0, locals := 0 } : Room))
theorem pl4 : plainFor (⟨"com/example/apportion/apportion/IdleGaps", "clear", "()V"⟩ : MethodName) = true := plainFor_of_name (by first | (simp [plainName, overriddenIn]; done) | decide +kernel)
def B5 : Bod := ("com/example/apportion/apportion/IdleGapsFloorPinLaw", "endOf", method_3_code, 3, some .long, ({ frames := 0, cells := 0, slots := 0, locals := 0 } : Room))
theorem pl5 : plainFor (⟨"com/example/apportion/apportion/IdleGapsFloorPinLaw", "endOf", "([JII)J"⟩ : MethodName) = true := plainFor_of_name (by first | (simp [plainName, overriddenIn]; done) | decide +kernel)
def B6 : Bod := ("com/example/apportion/apportion/IdleGaps", "append", prog_97_method_9_code, 5, none, ({ frames := 2, cells := 2, slots := 16, locals := 60 } : Room))
theorem pl6 : plainFor (⟨"com/example/apportion/apportion/IdleGaps", "append", "(JJ)V"⟩ : MethodName) = true := plainFor_of_name (by first | (simp [plainName, overriddenIn]; done) | decide +kernel)
def B7 : Bod := ("com/example/apportion/apportion/IdleGapsFloorPinLaw", "in", method_4_code, 6, some .int, ({ frames := 0, cells := 0, slots := 0, locals := 0 } : Room))
theorem pl7 : plainFor (⟨"com/example/apportion/apportion/IdleGapsFloorPinLaw", "in", "([JIIIJ)I"⟩ : MethodName) = true := plainFor_of_name (by first | (simp [plainName, overriddenIn]; done) | decide +kernel)
def B8 : Bod := ("com/example/apportion/apportion/IdleGaps", "floor", prog_97_method_5_code, 6, some .int, ({ frames := 0, cells := 0, slots := 0, locals := 0 } : Room))
theorem pl8 : plainFor (⟨"com/example/apportion/apportion/IdleGaps", "floor", "(J)I"⟩ : MethodName) = true := plainFor_of_name (by first | (simp [plainName, overriddenIn]; done) | decide +kernel)
def B9 : Bod := ("com/example/apportion/apportion/IdleGaps", "dropFirst", prog_97_method_7_code, 1, none, ({ frames := 0, cells := 0, slots := 0, locals := 0 } : Room))
theorem pl9 : plainFor (⟨"com/example/apportion/apportion/IdleGaps", "dropFirst", "()V"⟩ : MethodName) = true := plainFor_of_name (by first | (simp [plainName, overriddenIn]; done) | decide +kernel)
def B10 : Bod := ("com/example/apportion/apportion/IdleGaps", "spread", prog_97_method_14_code, 4, none, ({ frames := 1, cells := 2, slots := 16, locals := 40 } : Room))
theorem pl10 : plainFor (⟨"com/example/apportion/apportion/IdleGaps", "spread", "()V"⟩ : MethodName) = true := plainFor_of_name (by first | (simp [plainName, overriddenIn]; done) | decide +kernel)
def B11 : Bod := ("com/example/apportion/apportion/IdleGaps", "size", prog_97_method_2_code, 1, some .int, ({ frames := 0, cells := 0, slots := 0, locals := 0 } : Room))
theorem pl11 : plainFor (⟨"com/example/apportion/apportion/IdleGaps", "size", "()I"⟩ : MethodName) = true := plainFor_of_name (by first | (simp [plainName, overriddenIn]; done) | decide +kernel)
def B12 : Bod := ("java/lang/Math", "max", jdk_29_method_65_code, 2, some .int, ({ frames := 0, cells := 0, slots := 0, locals := 0 } : Room))
theorem pl12 : plainFor (⟨"java/lang/Math", "max", "(II)I"⟩ : MethodName) = true := Jvm.Free.JP.mathPlain rfl (by decide +kernel)
def L_IG : OLay := [("com/example/apportion/apportion/IdleGaps", "starts", "[J"), ("com/example/apportion/apportion/IdleGaps", "ends", "[J"), ("com/example/apportion/apportion/IdleGaps", "first", "I"), ("com/example/apportion/apportion/IdleGaps", "last", "I")]
theorem lay_IG {Z : State} {a0 : Array Value} (hw : HW Z a0) : OLaids Z a0 "com/example/apportion/apportion/IdleGaps" L_IG := by
  intro q hq
  simp only [L_IG, List.mem_cons, List.not_mem_nil, or_false] at hq
  rcases hq with rfl | rfl | rfl | rfl
  · exact ⟨Or.inl (w18 hw), (.array .long), by decide⟩
  · exact ⟨Or.inl (w20 hw), (.array .long), by decide⟩
  · exact ⟨Or.inl (w22 hw), .int, by decide⟩
  · exact ⟨Or.inl (w24 hw), .int, by decide⟩
theorem max_met {l : Launch} {Z : State} {a0 : Array Value} (hw : HW Z a0) {n0 : Nat} {h : Heap} (x y : Int32) : OMet l (⟨"java/lang/Math", "max", "(II)I"⟩ : MethodName) B12 Z n0 #[(.int x), (.int y)] h (fun v h' => h = h' ∧ ∃ r : Int32, v = some (.int r) ∧ ((x.toInt < y.toInt ∧ r.toInt = y.toInt) ∨ (y.toInt ≤ x.toInt ∧ r.toInt = x.toInt))) := by
  refine OMet.of_wp (ls0 := #[.val (.int x), .val (.int y)]) pl12 rfl rfl (fun m => own_entry 0 rfl rfl) ?_
  refine WP.iloadN d12_0 rfl (pc' := 1) rfl ?_
  refine WP.iloadN d12_1 rfl (pc' := 2) rfl ?_
  refine WP.icmpLt d12_2 (tgt := 9) (by decide) (pc' := 5) rfl (fun c2 => ?_) (fun c2 => ?_)
  ·
    refine WP.iloadN d12_9 rfl (pc' := 10) rfl ?_
    exact WP.retI d12_10 rfl (by decide) (by decide) ⟨rfl, _, rfl, by omega⟩
  refine WP.iloadN d12_5 rfl (pc' := 6) rfl ?_
  refine WP.goto d12_6 (pc' := 10) (by decide) ?_
  exact WP.retI d12_10 rfl (by decide) (by decide) ⟨rfl, _, rfl, by omega⟩
def EF (es : List Value) : Prop := ∀ (q : Nat) (v : Value), es[q]? = some v → fits .long v = true
theorem EF.set {es : List Value} {i : Nat} {y : Int64} (h : EF es) : EF (es.set i (.long y)) := by
  intro q v hv
  by_cases e : i = q
  · subst e
    have hl := (List.getElem?_eq_some_iff.mp hv).1
    rw [List.getElem?_set_self (by simpa using hl)] at hv
    cases hv; rfl
  · rw [List.getElem?_set_ne e] at hv; exact h q v hv
theorem min_met {l : Launch} {Z : State} {a0 : Array Value} (hw : HW Z a0) {n0 : Nat} {h : Heap} (x y : Int64) : OMet l (⟨"java/lang/Math", "min", "(JJ)J"⟩ : MethodName) B1 Z n0 #[(.long x), (.long y)] h (fun v h' => h = h' ∧ ∃ r : Int64, v = some (.long r) ∧ ((y.toInt < x.toInt ∧ r.toInt = y.toInt) ∨ (x.toInt ≤ y.toInt ∧ r.toInt = x.toInt))) := by
  refine OMet.of_wp (ls0 := #[.val (.long x), .second, .val (.long y), .second]) pl1 rfl rfl (fun m => own_entry 0 rfl rfl) ?_
  refine WP.lloadN d1_0 rfl (pc' := 1) rfl ?_
  refine WP.lloadN d1_1 rfl (pc' := 2) rfl ?_
  refine WP.lcmpGt d1_2 rfl d1_3 (tgt := 10) (by decide) (pc' := 6) rfl (fun c2 => ?_) (fun c2 => ?_)
  ·
    refine WP.lloadN d1_10 rfl (pc' := 11) rfl ?_
    exact WP.retJ d1_11 rfl (by decide) (by decide) ⟨rfl, _, rfl, by omega⟩
  refine WP.lloadN d1_6 rfl (pc' := 7) rfl ?_
  refine WP.goto d1_7 (pc' := 11) (by decide) ?_
  exact WP.retJ d1_11 rfl (by decide) (by decide) ⟨rfl, _, rfl, by omega⟩
theorem ini_met {l : Launch} {Z : State} {a0 : Array Value} (hw : HW Z a0) {n0 : Nat} {h : Heap} (q : Addr) (a : Int64) (g_q : n0 ≤ q) (O_q : Ob Z h q "com/example/apportion/apportion/IdleGaps" L_IG [.null, .null, (.int 0), (.int 0)]) : OMet l (⟨"com/example/apportion/apportion/IdleGaps", "<init>", "(J)V"⟩ : MethodName) B2 Z n0 #[(.ref q), (.long a)] h (fun v h' => v = none ∧ ∃ (r e : Addr) (x0 x1 x2 x3 : Int64) (es : List Value), Ob Z h' q "com/example/apportion/apportion/IdleGaps" L_IG [(.ref r), (.ref e), (.int (1 : Int32)), (.int (2 : Int32))] ∧ Av Z h' r .long [(.long x0), (.long x1), (.long x2), (.long x3)] ∧ Av Z h' e .long es ∧ es.length = 4 ∧ n0 ≤ r ∧ n0 ≤ e ∧ (q ≠ r ∧ q ≠ e ∧ r ≠ e) ∧ Keep h h' [q] ∧ h.size ≤ r ∧ h.size ≤ e ∧ EF es) := by
  refine OMet.of_wp (ls0 := #[.val (.ref q), .val (.long a), .second]) pl2 rfl rfl (fun m => own_entry 0 rfl rfl) ?_
  have k32_1 : (1 : Int32).toInt = 1 := by decide
  have k32_2 : (2 : Int32).toInt = 2 := by decide
  have k32_4 : (4 : Int32).toInt = 4 := by decide
  have k64_9223372036854775807 : (9223372036854775807 : Int64).toInt = 9223372036854775807 := by decide
  have KE : Keep h h [q] := Keep.refl _ _
  refine WP.aloadN d2_0 rfl rfl (pc' := 1) rfl ?_
  refine WP.initO (a := q) d2_1 (w14 hw) (w15 hw) (w16 hw) rfl (by decide) (Nat.le_of_ble_eq_true rfl) (pc' := 4) rfl ?_
  refine WP.aloadN d2_4 rfl rfl (pc' := 5) rfl ?_
  refine WP.iconst d2_5 (z := (4 : Int32)) rfl (pc' := 6) rfl ?_
  refine WP.newarr d2_6 (w0 hw) (k := 4) rfl 4 (by decide) (by decide) (by decide) (by decide) (pc' := 8) rfl ?_
  intro r h1 eb_r g_r K2 A_r
  replace A_r : Av Z h1 r .long [.long 0, .long 0, .long 0, .long 0] := A_r
  have lt_q_r : q < r := by rw [eb_r]; exact O_q.lt
  have sz_r : h.size ≤ r := by rw [eb_r]; exact KE.1
  replace KE := KE.trans K2 own_all0
  replace O_q := O_q.keep K2 own_nil
  refine WP.putf (i := 0) d2_8 (w17 hw) O_q (lay_IG hw) (by decide) rfl (Or.inl (w18 hw)) (w9 hw) (t := (.array .long)) (by decide) rfl rfl g_q (pc' := 11) rfl ?_
  intro h3 K4 O_n
  replace KE := KE.trans K4 (own_all (Or.inl (by simp)) own_all0)
  replace A_r := A_r.keep K4 (own_cons (by first | assumption | exact Ne.symm (by assumption) | exact Nat.ne_of_lt (by assumption) | exact Nat.ne_of_gt (by assumption)) own_nil)
  replace O_q : Ob Z h3 q "com/example/apportion/apportion/IdleGaps" L_IG [(.ref r), .null, (.int 0), (.int 0)] := O_n
  clear O_n
  refine WP.aloadN d2_11 rfl rfl (pc' := 12) rfl ?_
  refine WP.iconst d2_12 (z := (4 : Int32)) rfl (pc' := 13) rfl ?_
  refine WP.newarr d2_13 (w0 hw) (k := 4) rfl 4 (by decide) (by decide) (by decide) (by decide) (pc' := 15) rfl ?_
  intro e h5 eb_e g_e K6 A_e
  replace A_e : Av Z h5 e .long [.long 0, .long 0, .long 0, .long 0] := A_e
  have lt_q_e : q < e := by rw [eb_e]; exact O_q.lt
  have lt_r_e : r < e := by rw [eb_e]; exact A_r.lt
  have sz_e : h.size ≤ e := by rw [eb_e]; exact KE.1
  replace KE := KE.trans K6 own_all0
  replace O_q := O_q.keep K6 own_nil
  replace A_r := A_r.keep K6 own_nil
  refine WP.putf (i := 1) d2_15 (w19 hw) O_q (lay_IG hw) (by decide) rfl (Or.inl (w20 hw)) (w9 hw) (t := (.array .long)) (by decide) rfl rfl g_q (pc' := 18) rfl ?_
  intro h7 K8 O_n
  replace KE := KE.trans K8 (own_all (Or.inl (by simp)) own_all0)
  replace A_r := A_r.keep K8 (own_cons (by first | assumption | exact Ne.symm (by assumption) | exact Nat.ne_of_lt (by assumption) | exact Nat.ne_of_gt (by assumption)) own_nil)
  replace A_e := A_e.keep K8 (own_cons (by first | assumption | exact Ne.symm (by assumption) | exact Nat.ne_of_lt (by assumption) | exact Nat.ne_of_gt (by assumption)) own_nil)
  replace O_q : Ob Z h7 q "com/example/apportion/apportion/IdleGaps" L_IG [(.ref r), (.ref e), (.int 0), (.int 0)] := O_n
  clear O_n
  refine WP.aloadN d2_18 rfl rfl (pc' := 19) rfl ?_
  refine WP.iconst d2_19 (z := (1 : Int32)) rfl (pc' := 20) rfl ?_
  refine WP.putf (i := 2) d2_20 (w21 hw) O_q (lay_IG hw) (by decide) rfl (Or.inl (w22 hw)) (w9 hw) (t := .int) (by decide) rfl rfl g_q (pc' := 23) rfl ?_
  intro h9 K10 O_n
  replace KE := KE.trans K10 (own_all (Or.inl (by simp)) own_all0)
  replace A_r := A_r.keep K10 (own_cons (by first | assumption | exact Ne.symm (by assumption) | exact Nat.ne_of_lt (by assumption) | exact Nat.ne_of_gt (by assumption)) own_nil)
  replace A_e := A_e.keep K10 (own_cons (by first | assumption | exact Ne.symm (by assumption) | exact Nat.ne_of_lt (by assumption) | exact Nat.ne_of_gt (by assumption)) own_nil)
  replace O_q : Ob Z h9 q "com/example/apportion/apportion/IdleGaps" L_IG [(.ref r), (.ref e), (.int (1 : Int32)), (.int 0)] := O_n
  clear O_n
  refine WP.aloadN d2_23 rfl rfl (pc' := 24) rfl ?_
  refine WP.iconst d2_24 (z := (2 : Int32)) rfl (pc' := 25) rfl ?_
  refine WP.putf (i := 3) d2_25 (w23 hw) O_q (lay_IG hw) (by decide) rfl (Or.inl (w24 hw)) (w9 hw) (t := .int) (by decide) rfl rfl g_q (pc' := 28) rfl ?_
  intro h11 K12 O_n
  replace KE := KE.trans K12 (own_all (Or.inl (by simp)) own_all0)
  replace A_r := A_r.keep K12 (own_cons (by first | assumption | exact Ne.symm (by assumption) | exact Nat.ne_of_lt (by assumption) | exact Nat.ne_of_gt (by assumption)) own_nil)
  replace A_e := A_e.keep K12 (own_cons (by first | assumption | exact Ne.symm (by assumption) | exact Nat.ne_of_lt (by assumption) | exact Nat.ne_of_gt (by assumption)) own_nil)
  replace O_q : Ob Z h11 q "com/example/apportion/apportion/IdleGaps" L_IG [(.ref r), (.ref e), (.int (1 : Int32)), (.int (2 : Int32))] := O_n
  clear O_n
  refine WP.aloadN d2_28 rfl rfl (pc' := 29) rfl ?_
  refine WP.getf (i := 0) (v := (.ref r)) d2_29 (w17 hw) O_q rfl rfl (pc' := 32) rfl ?_
  refine WP.aloadN d2_32 rfl rfl (pc' := 33) rfl ?_
  refine WP.getf (i := 2) (v := (.int (1 : Int32))) d2_33 (w21 hw) O_q rfl rfl (pc' := 36) rfl ?_
  refine WP.lloadN d2_36 rfl (pc' := 37) rfl ?_
  refine WP.lastore 1 d2_37 A_r rfl (Nat.le_of_ble_eq_true rfl) g_r (pc' := 38) rfl ?_
  intro h13 K14 A_n
  replace KE := KE.trans K14 (own_all (Or.inr sz_r) own_all0)
  replace O_q := O_q.keep K14 (own_cons (by first | assumption | exact Ne.symm (by assumption) | exact Nat.ne_of_lt (by assumption) | exact Nat.ne_of_gt (by assumption)) own_nil)
  replace A_e := A_e.keep K14 (own_cons (by first | assumption | exact Ne.symm (by assumption) | exact Nat.ne_of_lt (by assumption) | exact Nat.ne_of_gt (by assumption)) own_nil)
  replace A_r : Av Z h13 r .long [(.long 0), (.long a), (.long 0), (.long 0)] := A_n
  clear A_n
  refine WP.aloadN d2_38 rfl rfl (pc' := 39) rfl ?_
  refine WP.getf (i := 1) (v := (.ref e)) d2_39 (w19 hw) O_q rfl rfl (pc' := 42) rfl ?_
  refine WP.aloadN d2_42 rfl rfl (pc' := 43) rfl ?_
  refine WP.getf (i := 2) (v := (.int (1 : Int32))) d2_43 (w21 hw) O_q rfl rfl (pc' := 46) rfl ?_
  refine WP.ldc2J d2_46 (w25 hw) (pc' := 49) rfl ?_
  refine WP.lastore 1 d2_49 A_e rfl (Nat.le_of_ble_eq_true rfl) g_e (pc' := 50) rfl ?_
  intro h15 K16 A_n
  replace KE := KE.trans K16 (own_all (Or.inr sz_e) own_all0)
  replace O_q := O_q.keep K16 (own_cons (by first | assumption | exact Ne.symm (by assumption) | exact Nat.ne_of_lt (by assumption) | exact Nat.ne_of_gt (by assumption)) own_nil)
  replace A_r := A_r.keep K16 (own_cons (by first | assumption | exact Ne.symm (by assumption) | exact Nat.ne_of_lt (by assumption) | exact Nat.ne_of_gt (by assumption)) own_nil)
  replace A_e : Av Z h15 e .long [(.long 0), (.long (9223372036854775807 : Int64)), (.long 0), (.long 0)] := A_n
  clear A_n
  exact WP.ret0 d2_50 rfl (by decide) (by decide) ⟨rfl, r, e, _, _, _, _, _, O_q, A_r, A_e, rfl, g_r, g_e, ⟨(by first | assumption | exact Ne.symm (by assumption) | exact Nat.ne_of_lt (by assumption) | exact Nat.ne_of_gt (by assumption)), (by first | assumption | exact Ne.symm (by assumption) | exact Nat.ne_of_lt (by assumption) | exact Nat.ne_of_gt (by assumption)), (by first | assumption | exact Ne.symm (by assumption) | exact Nat.ne_of_lt (by assumption) | exact Nat.ne_of_gt (by assumption))⟩, KE, sz_r, sz_e, (fun q v hv => by have hm := List.mem_of_getElem? hv; simp only [List.mem_cons, List.not_mem_nil, or_false] at hm; rcases hm with rfl | rfl | rfl | rfl <;> rfl)⟩
theorem clr_met {l : Launch} {Z : State} {a0 : Array Value} (hw : HW Z a0) {n0 : Nat} {h : Heap} (q r e : Addr) (f l' : Int32) (g_q : n0 ≤ q) (O_q : Ob Z h q "com/example/apportion/apportion/IdleGaps" L_IG [(.ref r), (.ref e), (.int f), (.int l')]) : OMet l (⟨"com/example/apportion/apportion/IdleGaps", "clear", "()V"⟩ : MethodName) B4 Z n0 #[(.ref q)] h (fun v h' => v = none ∧ Keep h h' [q] ∧ Ob Z h' q "com/example/apportion/apportion/IdleGaps" L_IG [(.ref r), (.ref e), (.int (0 : Int32)), (.int (0 : Int32))]) := by
  refine OMet.of_wp (ls0 := #[.val (.ref q)]) pl4 rfl rfl (fun m => own_entry 0 rfl rfl) ?_
  have k32_0 : (0 : Int32).toInt = 0 := by decide
  have KE : Keep h h [q] := Keep.refl _ _
  refine WP.aloadN d4_0 rfl rfl (pc' := 1) rfl ?_
  refine WP.iconst d4_1 (z := (0 : Int32)) rfl (pc' := 2) rfl ?_
  refine WP.putf (i := 2) d4_2 (w21 hw) O_q (lay_IG hw) (by decide) rfl (Or.inl (w22 hw)) (w9 hw) (t := .int) (by decide) rfl rfl g_q (pc' := 5) rfl ?_
  intro h1 K2 O_n
  replace KE := KE.trans K2 (own_all (Or.inl (by simp)) own_all0)
  replace O_q : Ob Z h1 q "com/example/apportion/apportion/IdleGaps" L_IG [(.ref r), (.ref e), (.int (0 : Int32)), (.int l')] := O_n
  clear O_n
  refine WP.aloadN d4_5 rfl rfl (pc' := 6) rfl ?_
  refine WP.iconst d4_6 (z := (0 : Int32)) rfl (pc' := 7) rfl ?_
  refine WP.putf (i := 3) d4_7 (w23 hw) O_q (lay_IG hw) (by decide) rfl (Or.inl (w24 hw)) (w9 hw) (t := .int) (by decide) rfl rfl g_q (pc' := 10) rfl ?_
  intro h3 K4 O_n
  replace KE := KE.trans K4 (own_all (Or.inl (by simp)) own_all0)
  replace O_q : Ob Z h3 q "com/example/apportion/apportion/IdleGaps" L_IG [(.ref r), (.ref e), (.int (0 : Int32)), (.int (0 : Int32))] := O_n
  clear O_n
  exact WP.ret0 d4_10 rfl (by decide) (by decide) ⟨rfl, KE, O_q⟩
theorem drp_met {l : Launch} {Z : State} {a0 : Array Value} (hw : HW Z a0) {n0 : Nat} {h : Heap} (q r e : Addr) (l' : Int32) (g_q : n0 ≤ q) (O_q : Ob Z h q "com/example/apportion/apportion/IdleGaps" L_IG [(.ref r), (.ref e), (.int (0 : Int32)), (.int l')]) : OMet l (⟨"com/example/apportion/apportion/IdleGaps", "dropFirst", "()V"⟩ : MethodName) B9 Z n0 #[(.ref q)] h (fun v h' => v = none ∧ Keep h h' [q] ∧ Ob Z h' q "com/example/apportion/apportion/IdleGaps" L_IG [(.ref r), (.ref e), (.int (1 : Int32)), (.int l')]) := by
  refine OMet.of_wp (ls0 := #[.val (.ref q)]) pl9 rfl rfl (fun m => own_entry 0 rfl rfl) ?_
  have k32_0 : (0 : Int32).toInt = 0 := by decide
  have k32_1 : (1 : Int32).toInt = 1 := by decide
  have KE : Keep h h [q] := Keep.refl _ _
  refine WP.aloadN d9_0 rfl rfl (pc' := 1) rfl ?_
  refine WP.dup d9_1 rfl (pc' := 2) rfl ?_
  refine WP.getf (i := 2) (v := (.int (0 : Int32))) d9_2 (w21 hw) O_q rfl rfl (pc' := 5) rfl ?_
  refine WP.iconst d9_5 (z := (1 : Int32)) rfl (pc' := 6) rfl ?_
  refine WP.iadd d9_6 (pc' := 7) rfl ?_
  rw [show (((0 : Int32) + (1 : Int32)) : Int32) = (1 : Int32) from by decide]
  refine WP.putf (i := 2) d9_7 (w21 hw) O_q (lay_IG hw) (by decide) rfl (Or.inl (w22 hw)) (w9 hw) (t := .int) (by decide) rfl rfl g_q (pc' := 10) rfl ?_
  intro h1 K2 O_n
  replace KE := KE.trans K2 (own_all (Or.inl (by simp)) own_all0)
  replace O_q : Ob Z h1 q "com/example/apportion/apportion/IdleGaps" L_IG [(.ref r), (.ref e), (.int (1 : Int32)), (.int l')] := O_n
  clear O_n
  exact WP.ret0 d9_10 rfl (by decide) (by decide) ⟨rfl, KE, O_q⟩
theorem siz_met {l : Launch} {Z : State} {a0 : Array Value} (hw : HW Z a0) {n0 : Nat} {h : Heap} (q r e : Addr) (O_q : Ob Z h q "com/example/apportion/apportion/IdleGaps" L_IG [(.ref r), (.ref e), (.int (0 : Int32)), (.int (4 : Int32))]) : OMet l (⟨"com/example/apportion/apportion/IdleGaps", "size", "()I"⟩ : MethodName) B11 Z n0 #[(.ref q)] h (fun v h' => v = some (.int 4) ∧ h = h') := by
  refine OMet.of_wp (ls0 := #[.val (.ref q)]) pl11 rfl rfl (fun m => own_entry 0 rfl rfl) ?_
  have k32_0 : (0 : Int32).toInt = 0 := by decide
  have k32_4 : (4 : Int32).toInt = 4 := by decide
  refine WP.aloadN d11_0 rfl rfl (pc' := 1) rfl ?_
  refine WP.getf (i := 3) (v := (.int (4 : Int32))) d11_1 (w23 hw) O_q rfl rfl (pc' := 4) rfl ?_
  refine WP.aloadN d11_4 rfl rfl (pc' := 5) rfl ?_
  refine WP.getf (i := 2) (v := (.int (0 : Int32))) d11_5 (w21 hw) O_q rfl rfl (pc' := 8) rfl ?_
  refine WP.isub d11_8 (pc' := 9) rfl ?_
  rw [show (((4 : Int32) - (0 : Int32)) : Int32) = (4 : Int32) from by decide]
  exact WP.retI d11_9 rfl (by decide) (by decide) ⟨rfl, rfl⟩
theorem end_met {l : Launch} {Z : State} {a0 : Array Value} (hw : HW Z a0) {n0 : Nat} {h : Heap} (s : Addr) (i k : Int32) (vs : List Value) (n : Nat) (x : Int64) (A_s : Av Z h s .long vs) (hi : i.toInt = (n : Int)) (hx : vs[n]? = some (.long x)) : OMet l (⟨"com/example/apportion/apportion/IdleGapsFloorPinLaw", "endOf", "([JII)J"⟩ : MethodName) B5 Z n0 #[(.ref s), (.int i), (.int k)] h (fun v h' => h = h' ∧ ∃ r : Int64, v = some (.long r)) := by
  refine OMet.of_wp (ls0 := #[.val (.ref s), .val (.int i), .val (.int k)]) pl5 rfl rfl (fun m => own_entry 0 rfl rfl) ?_
  have k32_1 : (1 : Int32).toInt = 1 := by decide
  have k64_1 : (1 : Int64).toInt = 1 := by decide
  have k64_9223372036854775807 : (9223372036854775807 : Int64).toInt = 9223372036854775807 := by decide
  refine WP.iloadN d5_0 rfl (pc' := 1) rfl ?_
  refine WP.iloadN d5_1 rfl (pc' := 2) rfl ?_
  refine WP.iconst d5_2 (z := (1 : Int32)) rfl (pc' := 3) rfl ?_
  refine WP.isub d5_3 (pc' := 4) rfl ?_
  refine WP.icmpNe d5_4 (tgt := 13) (by decide) (pc' := 7) rfl (fun c4 => ?_) (fun c4 => ?_)
  ·
    refine WP.aloadN d5_13 rfl rfl (pc' := 14) rfl ?_
    refine WP.iloadN d5_14 rfl (pc' := 15) rfl ?_
    refine WP.laload n d5_15 A_s (x := x) hi hx (pc' := 16) rfl ?_
    refine WP.lconst1 d5_16 (pc' := 17) rfl ?_
    refine WP.ladd d5_17 (pc' := 18) rfl ?_
    exact WP.retJ d5_18 rfl (by decide) (by decide) ⟨rfl, _, rfl⟩
  refine WP.ldc2J d5_7 (w40 hw) (pc' := 10) rfl ?_
  refine WP.goto d5_10 (pc' := 18) (by decide) ?_
  exact WP.retJ d5_18 rfl (by decide) (by decide) ⟨rfl, _, rfl⟩
theorem in_met {l : Launch} {Z : State} {a0 : Array Value} (hw : HW Z a0) {n0 : Nat} {h : Heap} (s : Addr) (i b k : Int32) (t : Int64) (vs : List Value) (n : Nat) (x : Int64) (A_s : Av Z h s .long vs) (hi : i.toInt = (n : Int)) (hx : vs[n]? = some (.long x)) : OMet l (⟨"com/example/apportion/apportion/IdleGapsFloorPinLaw", "in", "([JIIIJ)I"⟩ : MethodName) B7 Z n0 #[(.ref s), (.int i), (.int b), (.int k), (.long t)] h (fun v h' => h = h' ∧ ∃ r : Int32, v = some (.int r) ∧ (((b.toInt ≤ i.toInt ∧ i.toInt < k.toInt ∧ x.toInt ≤ t.toInt) ∧ r.toInt = 1) ∨ (¬ (b.toInt ≤ i.toInt ∧ i.toInt < k.toInt ∧ x.toInt ≤ t.toInt) ∧ r.toInt = 0))) := by
  refine OMet.of_wp (ls0 := #[.val (.ref s), .val (.int i), .val (.int b), .val (.int k), .val (.long t), .second]) pl7 rfl rfl (fun m => own_entry 0 rfl rfl) ?_
  have k32_0 : (0 : Int32).toInt = 0 := by decide
  have k32_1 : (1 : Int32).toInt = 1 := by decide
  refine WP.iloadN d7_0 rfl (pc' := 1) rfl ?_
  refine WP.iloadN d7_1 rfl (pc' := 2) rfl ?_
  refine WP.icmpLt d7_2 (tgt := 23) (by decide) (pc' := 5) rfl (fun c2 => ?_) (fun c2 => ?_)
  ·
    refine WP.iconst d7_23 (z := (0 : Int32)) rfl (pc' := 24) rfl ?_
    exact WP.retI d7_24 rfl (by decide) (by decide) ⟨rfl, _, rfl, by omega⟩
  refine WP.iloadN d7_5 rfl (pc' := 6) rfl ?_
  refine WP.iloadN d7_6 rfl (pc' := 7) rfl ?_
  refine WP.icmpGe d7_7 (tgt := 23) (by decide) (pc' := 10) rfl (fun c7 => ?_) (fun c7 => ?_)
  ·
    refine WP.iconst d7_23 (z := (0 : Int32)) rfl (pc' := 24) rfl ?_
    exact WP.retI d7_24 rfl (by decide) (by decide) ⟨rfl, _, rfl, by omega⟩
  refine WP.aloadN d7_10 rfl rfl (pc' := 11) rfl ?_
  refine WP.iloadN d7_11 rfl (pc' := 12) rfl ?_
  refine WP.laload n d7_12 A_s (x := x) hi hx (pc' := 13) rfl ?_
  refine WP.lload d7_13 rfl (pc' := 15) rfl ?_
  refine WP.lcmpGt d7_15 rfl d7_16 (tgt := 23) (by decide) (pc' := 19) rfl (fun c15 => ?_) (fun c15 => ?_)
  ·
    refine WP.iconst d7_23 (z := (0 : Int32)) rfl (pc' := 24) rfl ?_
    exact WP.retI d7_24 rfl (by decide) (by decide) ⟨rfl, _, rfl, by omega⟩
  refine WP.iconst d7_19 (z := (1 : Int32)) rfl (pc' := 20) rfl ?_
  refine WP.goto d7_20 (pc' := 24) (by decide) ?_
  exact WP.retI d7_24 rfl (by decide) (by decide) ⟨rfl, _, rfl, by omega⟩
theorem own_l8 {us L : List Value} (h1 : us.length = 8) (h2 : L.length = 8) (h : ∀ i, i < 8 → us[i]? = L[i]?) : us = L := by
  apply List.ext_getElem?
  intro i
  by_cases c : i < 8
  · exact h i c
  · rw [List.getElem?_eq_none (by omega), List.getElem?_eq_none (by omega)]
theorem spr_met {l : Launch} {Z : State} {a0 : Array Value} (hw : HW Z a0) {n0 : Nat} {h : Heap} (q r e : Addr) (x0 x1 x2 x3 : Int64) (es : List Value) (g_q : n0 ≤ q) (O_q : Ob Z h q "com/example/apportion/apportion/IdleGaps" L_IG [(.ref r), (.ref e), (.int (0 : Int32)), (.int (4 : Int32))]) (A_r : Av Z h r .long [(.long x0), (.long x1), (.long x2), (.long x3)]) (A_e : Av Z h e .long es) (hes : es.length = 4) (hfe : EF es) (hnd : q ≠ r ∧ q ≠ e ∧ r ≠ e) : OMet l (⟨"com/example/apportion/apportion/IdleGaps", "spread", "()V"⟩ : MethodName) B10 Z n0 #[(.ref q)] h (fun v h' => v = none ∧ ∃ (r2 e2 : Addr) (ue : List Value), Ob Z h' q "com/example/apportion/apportion/IdleGaps" L_IG [(.ref r2), (.ref e2), (.int (0 : Int32)), (.int (4 : Int32))] ∧ Av Z h' r2 .long [(.long x0), (.long x1), (.long x2), (.long x3), (.long 0), (.long 0), (.long 0), (.long 0)] ∧ Av Z h' e2 .long ue ∧ ue.length = 8 ∧ n0 ≤ r2 ∧ n0 ≤ e2 ∧ (q ≠ r2 ∧ q ≠ e2 ∧ r2 ≠ e2) ∧ Keep h h' [q] ∧ h.size ≤ r2 ∧ h.size ≤ e2) := by
  refine OMet.of_wp (ls0 := #[.val (.ref q), .unset, .unset, .unset]) pl10 rfl rfl (fun m => own_entry 3 rfl rfl) ?_
  obtain ⟨n_qr, n_qe, n_re⟩ := id hnd
  have lt_q := O_q.lt
  have lt_r := A_r.lt
  have lt_e := A_e.lt
  have k32_0 : (0 : Int32).toInt = 0 := by decide
  have k32_2 : (2 : Int32).toInt = 2 := by decide
  have k32_4 : (4 : Int32).toInt = 4 := by decide
  have k32_8 : (8 : Int32).toInt = 8 := by decide
  have KE : Keep h h [q] := Keep.refl _ _
  refine WP.aloadN d10_0 rfl rfl (pc' := 1) rfl ?_
  refine WP.callV (a := q) (z := (⟨"com/example/apportion/apportion/IdleGaps", "size", "()I"⟩ : MethodName)) (Cl := "com/example/apportion/apportion/IdleGaps") (y := (⟨"com/example/apportion/apportion/IdleGaps", "size", "()I"⟩ : MethodName)) (By := B11) (as := []) (rest := []) d10_1 (w58 hw) (w59 hw) (w61 hw) (w60 hw) (w10 hw) (w62 hw) rfl rfl (by decide) O_q.1 (siz_met hw q r e O_q) pd_0 rfl rfl rfl (by decide) (Nat.le_of_ble_eq_true rfl) (by decide) (by decide) (pc' := 4) rfl ?_
  rintro _ _ ⟨rfl, rfl⟩
  show WP _ _ _ _ _ _ _ _ _ _ [(.int (4 : Int32))]
  refine WP.istoreN d10_4 (pc' := 5) rfl (ls' := #[.val (.ref q), .val (.int (4 : Int32)), .unset, .unset]) rfl ?_
  refine WP.iconst d10_5 (z := (4 : Int32)) rfl (pc' := 6) rfl ?_
  refine WP.iconst d10_6 (z := (2 : Int32)) rfl (pc' := 7) rfl ?_
  refine WP.iloadN d10_7 rfl (pc' := 8) rfl ?_
  refine WP.imul d10_8 (pc' := 9) rfl ?_
  rw [show (((2 : Int32) * (4 : Int32)) : Int32) = (8 : Int32) from by decide]
  refine WP.callS (y := (⟨"java/lang/Math", "max", "(II)I"⟩ : MethodName)) (By := B12) (as := [(.int (4 : Int32)), (.int (8 : Int32))]) (rest := []) d10_9 (w63 hw) (w64 hw) (w4 hw) (w65 hw) (by decide) (max_met hw (4 : Int32) (8 : Int32)) pd_1 rfl rfl rfl (by decide) (Nat.le_of_ble_eq_true rfl) (by decide) (by decide) (pc' := 12) rfl ?_
  rintro _ _ ⟨rfl, m, rfl, hm⟩
  have k8 : (8 : Int32).toInt = 8 := by decide
  have k4 : (4 : Int32).toInt = 4 := by decide
  obtain rfl : m = (8 : Int32) := own_e32 (by omega)
  show WP _ _ _ _ _ _ _ _ _ _ [(.int (8 : Int32))]
  refine WP.newarr d10_12 (w0 hw) (k := 8) rfl 8 (by decide) (by decide) (by decide) (by decide) (pc' := 14) rfl ?_
  intro r2 h3 eb_r2 g_r2 K4 A_r2
  replace A_r2 : Av Z h3 r2 .long [.long 0, .long 0, .long 0, .long 0, .long 0, .long 0, .long 0, .long 0] := A_r2
  have lt_q_r2 : q < r2 := by rw [eb_r2]; exact O_q.lt
  have lt_r_r2 : r < r2 := by rw [eb_r2]; exact A_r.lt
  have lt_e_r2 : e < r2 := by rw [eb_r2]; exact A_e.lt
  have sz_r2 : h.size ≤ r2 := by rw [eb_r2]; exact KE.1
  replace KE := KE.trans K4 own_all0
  replace O_q := O_q.keep K4 own_nil
  replace A_r := A_r.keep K4 own_nil
  replace A_e := A_e.keep K4 own_nil
  refine WP.astoreN d10_14 (pc' := 15) rfl rfl (ls' := #[.val (.ref q), .val (.int (4 : Int32)), .val (.ref r2), .unset]) rfl ?_
  refine WP.aloadN d10_15 rfl rfl (pc' := 16) rfl ?_
  refine WP.alen d10_16 A_r2 (k := (8 : Int32)) rfl (pc' := 17) rfl ?_
  refine WP.newarr d10_17 (w0 hw) (k := 8) rfl 8 (by decide) (by decide) (by decide) (by decide) (pc' := 19) rfl ?_
  intro e2 h5 eb_e2 g_e2 K6 A_e2
  replace A_e2 : Av Z h5 e2 .long [.long 0, .long 0, .long 0, .long 0, .long 0, .long 0, .long 0, .long 0] := A_e2
  have lt_q_e2 : q < e2 := by rw [eb_e2]; exact O_q.lt
  have lt_r_e2 : r < e2 := by rw [eb_e2]; exact A_r.lt
  have lt_e_e2 : e < e2 := by rw [eb_e2]; exact A_e.lt
  have lt_r2_e2 : r2 < e2 := by rw [eb_e2]; exact A_r2.lt
  have sz_e2 : h.size ≤ e2 := by rw [eb_e2]; exact KE.1
  replace KE := KE.trans K6 own_all0
  replace O_q := O_q.keep K6 own_nil
  replace A_r := A_r.keep K6 own_nil
  replace A_e := A_e.keep K6 own_nil
  replace A_r2 := A_r2.keep K6 own_nil
  refine WP.astoreN d10_19 (pc' := 20) rfl rfl (ls' := #[.val (.ref q), .val (.int (4 : Int32)), .val (.ref r2), .val (.ref e2)]) rfl ?_
  refine WP.aloadN d10_20 rfl rfl (pc' := 21) rfl ?_
  refine WP.getf (i := 0) (v := (.ref r)) d10_21 (w17 hw) O_q rfl rfl (pc' := 24) rfl ?_
  refine WP.aloadN d10_24 rfl rfl (pc' := 25) rfl ?_
  refine WP.getf (i := 2) (v := (.int (0 : Int32))) d10_25 (w21 hw) O_q rfl rfl (pc' := 28) rfl ?_
  refine WP.aloadN d10_28 rfl rfl (pc' := 29) rfl ?_
  refine WP.iconst d10_29 (z := (0 : Int32)) rfl (pc' := 30) rfl ?_
  refine WP.iloadN d10_30 rfl (pc' := 31) rfl ?_
  refine WP.acopy 0 0 4 d10_31 (w66 hw) (w69 hw) (w67 hw) (w68 hw) A_r A_r2 rfl rfl rfl rfl (Nat.le_of_ble_eq_true rfl) (Nat.le_of_ble_eq_true rfl) (fun q v hv => by have hm := List.mem_of_getElem? hv; simp only [List.mem_cons, List.not_mem_nil, or_false] at hm; rcases hm with rfl | rfl | rfl | rfl <;> rfl) g_r2 rfl (by decide) (Nat.le_of_ble_eq_true rfl) (pc' := 34) rfl ?_
  intro h7 ur K8 A_n hl_ur hg_ur
  replace KE := KE.trans K8 (own_all (Or.inr sz_r2) own_all0)
  replace O_q := O_q.keep K8 (own_cons (by first | assumption | exact Ne.symm (by assumption) | exact Nat.ne_of_lt (by assumption) | exact Nat.ne_of_gt (by assumption)) own_nil)
  replace A_r := A_r.keep K8 (own_cons (by first | assumption | exact Ne.symm (by assumption) | exact Nat.ne_of_lt (by assumption) | exact Nat.ne_of_gt (by assumption)) own_nil)
  replace A_e := A_e.keep K8 (own_cons (by first | assumption | exact Ne.symm (by assumption) | exact Nat.ne_of_lt (by assumption) | exact Nat.ne_of_gt (by assumption)) own_nil)
  replace A_e2 := A_e2.keep K8 (own_cons (by first | assumption | exact Ne.symm (by assumption) | exact Nat.ne_of_lt (by assumption) | exact Nat.ne_of_gt (by assumption)) own_nil)
  replace A_r2 := A_n
  obtain rfl : ur = [(.long x0), (.long x1), (.long x2), (.long x3), (.long 0), (.long 0), (.long 0), (.long 0)] := own_l8 hl_ur rfl (fun i hi => by rcases (by omega : i = 0 ∨ i = 1 ∨ i = 2 ∨ i = 3 ∨ i = 4 ∨ i = 5 ∨ i = 6 ∨ i = 7) with rfl | rfl | rfl | rfl | rfl | rfl | rfl | rfl <;> (rw [hg_ur]; rfl))
  refine WP.aloadN d10_34 rfl rfl (pc' := 35) rfl ?_
  refine WP.getf (i := 1) (v := (.ref e)) d10_35 (w19 hw) O_q rfl rfl (pc' := 38) rfl ?_
  refine WP.aloadN d10_38 rfl rfl (pc' := 39) rfl ?_
  refine WP.getf (i := 2) (v := (.int (0 : Int32))) d10_39 (w21 hw) O_q rfl rfl (pc' := 42) rfl ?_
  refine WP.aloadN d10_42 rfl rfl (pc' := 43) rfl ?_
  refine WP.iconst d10_43 (z := (0 : Int32)) rfl (pc' := 44) rfl ?_
  refine WP.iloadN d10_44 rfl (pc' := 45) rfl ?_
  refine WP.acopy 0 0 4 d10_45 (w66 hw) (w69 hw) (w67 hw) (w68 hw) A_e A_e2 rfl rfl rfl rfl (by omega) (Nat.le_of_ble_eq_true rfl) hfe g_e2 rfl (by decide) (Nat.le_of_ble_eq_true rfl) (pc' := 48) rfl ?_
  intro h9 ue K10 A_n hl_ue hg_ue
  replace KE := KE.trans K10 (own_all (Or.inr sz_e2) own_all0)
  replace O_q := O_q.keep K10 (own_cons (by first | assumption | exact Ne.symm (by assumption) | exact Nat.ne_of_lt (by assumption) | exact Nat.ne_of_gt (by assumption)) own_nil)
  replace A_r := A_r.keep K10 (own_cons (by first | assumption | exact Ne.symm (by assumption) | exact Nat.ne_of_lt (by assumption) | exact Nat.ne_of_gt (by assumption)) own_nil)
  replace A_e := A_e.keep K10 (own_cons (by first | assumption | exact Ne.symm (by assumption) | exact Nat.ne_of_lt (by assumption) | exact Nat.ne_of_gt (by assumption)) own_nil)
  replace A_r2 := A_r2.keep K10 (own_cons (by first | assumption | exact Ne.symm (by assumption) | exact Nat.ne_of_lt (by assumption) | exact Nat.ne_of_gt (by assumption)) own_nil)
  replace A_e2 := A_n
  refine WP.aloadN d10_48 rfl rfl (pc' := 49) rfl ?_
  refine WP.aloadN d10_49 rfl rfl (pc' := 50) rfl ?_
  refine WP.putf (i := 0) d10_50 (w17 hw) O_q (lay_IG hw) (by decide) rfl (Or.inl (w18 hw)) (w9 hw) (t := (.array .long)) (by decide) rfl rfl g_q (pc' := 53) rfl ?_
  intro h11 K12 O_n
  replace KE := KE.trans K12 (own_all (Or.inl (by simp)) own_all0)
  replace A_r := A_r.keep K12 (own_cons (by first | assumption | exact Ne.symm (by assumption) | exact Nat.ne_of_lt (by assumption) | exact Nat.ne_of_gt (by assumption)) own_nil)
  replace A_e := A_e.keep K12 (own_cons (by first | assumption | exact Ne.symm (by assumption) | exact Nat.ne_of_lt (by assumption) | exact Nat.ne_of_gt (by assumption)) own_nil)
  replace A_r2 := A_r2.keep K12 (own_cons (by first | assumption | exact Ne.symm (by assumption) | exact Nat.ne_of_lt (by assumption) | exact Nat.ne_of_gt (by assumption)) own_nil)
  replace A_e2 := A_e2.keep K12 (own_cons (by first | assumption | exact Ne.symm (by assumption) | exact Nat.ne_of_lt (by assumption) | exact Nat.ne_of_gt (by assumption)) own_nil)
  replace O_q : Ob Z h11 q "com/example/apportion/apportion/IdleGaps" L_IG [(.ref r2), (.ref e), (.int (0 : Int32)), (.int (4 : Int32))] := O_n
  clear O_n
  refine WP.aloadN d10_53 rfl rfl (pc' := 54) rfl ?_
  refine WP.aloadN d10_54 rfl rfl (pc' := 55) rfl ?_
  refine WP.putf (i := 1) d10_55 (w19 hw) O_q (lay_IG hw) (by decide) rfl (Or.inl (w20 hw)) (w9 hw) (t := (.array .long)) (by decide) rfl rfl g_q (pc' := 58) rfl ?_
  intro h13 K14 O_n
  replace KE := KE.trans K14 (own_all (Or.inl (by simp)) own_all0)
  replace A_r := A_r.keep K14 (own_cons (by first | assumption | exact Ne.symm (by assumption) | exact Nat.ne_of_lt (by assumption) | exact Nat.ne_of_gt (by assumption)) own_nil)
  replace A_e := A_e.keep K14 (own_cons (by first | assumption | exact Ne.symm (by assumption) | exact Nat.ne_of_lt (by assumption) | exact Nat.ne_of_gt (by assumption)) own_nil)
  replace A_r2 := A_r2.keep K14 (own_cons (by first | assumption | exact Ne.symm (by assumption) | exact Nat.ne_of_lt (by assumption) | exact Nat.ne_of_gt (by assumption)) own_nil)
  replace A_e2 := A_e2.keep K14 (own_cons (by first | assumption | exact Ne.symm (by assumption) | exact Nat.ne_of_lt (by assumption) | exact Nat.ne_of_gt (by assumption)) own_nil)
  replace O_q : Ob Z h13 q "com/example/apportion/apportion/IdleGaps" L_IG [(.ref r2), (.ref e2), (.int (0 : Int32)), (.int (4 : Int32))] := O_n
  clear O_n
  refine WP.aloadN d10_58 rfl rfl (pc' := 59) rfl ?_
  refine WP.iconst d10_59 (z := (0 : Int32)) rfl (pc' := 60) rfl ?_
  refine WP.putf (i := 2) d10_60 (w21 hw) O_q (lay_IG hw) (by decide) rfl (Or.inl (w22 hw)) (w9 hw) (t := .int) (by decide) rfl rfl g_q (pc' := 63) rfl ?_
  intro h15 K16 O_n
  replace KE := KE.trans K16 (own_all (Or.inl (by simp)) own_all0)
  replace A_r := A_r.keep K16 (own_cons (by first | assumption | exact Ne.symm (by assumption) | exact Nat.ne_of_lt (by assumption) | exact Nat.ne_of_gt (by assumption)) own_nil)
  replace A_e := A_e.keep K16 (own_cons (by first | assumption | exact Ne.symm (by assumption) | exact Nat.ne_of_lt (by assumption) | exact Nat.ne_of_gt (by assumption)) own_nil)
  replace A_r2 := A_r2.keep K16 (own_cons (by first | assumption | exact Ne.symm (by assumption) | exact Nat.ne_of_lt (by assumption) | exact Nat.ne_of_gt (by assumption)) own_nil)
  replace A_e2 := A_e2.keep K16 (own_cons (by first | assumption | exact Ne.symm (by assumption) | exact Nat.ne_of_lt (by assumption) | exact Nat.ne_of_gt (by assumption)) own_nil)
  replace O_q : Ob Z h15 q "com/example/apportion/apportion/IdleGaps" L_IG [(.ref r2), (.ref e2), (.int (0 : Int32)), (.int (4 : Int32))] := O_n
  clear O_n
  refine WP.aloadN d10_63 rfl rfl (pc' := 64) rfl ?_
  refine WP.iloadN d10_64 rfl (pc' := 65) rfl ?_
  refine WP.putf (i := 3) d10_65 (w23 hw) O_q (lay_IG hw) (by decide) rfl (Or.inl (w24 hw)) (w9 hw) (t := .int) (by decide) rfl rfl g_q (pc' := 68) rfl ?_
  intro h17 K18 O_n
  replace KE := KE.trans K18 (own_all (Or.inl (by simp)) own_all0)
  replace A_r := A_r.keep K18 (own_cons (by first | assumption | exact Ne.symm (by assumption) | exact Nat.ne_of_lt (by assumption) | exact Nat.ne_of_gt (by assumption)) own_nil)
  replace A_e := A_e.keep K18 (own_cons (by first | assumption | exact Ne.symm (by assumption) | exact Nat.ne_of_lt (by assumption) | exact Nat.ne_of_gt (by assumption)) own_nil)
  replace A_r2 := A_r2.keep K18 (own_cons (by first | assumption | exact Ne.symm (by assumption) | exact Nat.ne_of_lt (by assumption) | exact Nat.ne_of_gt (by assumption)) own_nil)
  replace A_e2 := A_e2.keep K18 (own_cons (by first | assumption | exact Ne.symm (by assumption) | exact Nat.ne_of_lt (by assumption) | exact Nat.ne_of_gt (by assumption)) own_nil)
  replace O_q : Ob Z h17 q "com/example/apportion/apportion/IdleGaps" L_IG [(.ref r2), (.ref e2), (.int (0 : Int32)), (.int (4 : Int32))] := O_n
  clear O_n
  exact WP.ret0 d10_68 rfl (by decide) (by decide) ⟨rfl, r2, e2, ue, O_q, A_r2, A_e2, hl_ue, g_r2, g_e2, ⟨(by first | assumption | exact Ne.symm (by assumption) | exact Nat.ne_of_lt (by assumption) | exact Nat.ne_of_gt (by assumption)), (by first | assumption | exact Ne.symm (by assumption) | exact Nat.ne_of_lt (by assumption) | exact Nat.ne_of_gt (by assumption)), (by first | assumption | exact Ne.symm (by assumption) | exact Nat.ne_of_lt (by assumption) | exact Nat.ne_of_gt (by assumption))⟩, KE, sz_r2, sz_e2⟩
theorem app0_met {l : Launch} {Z : State} {a0 : Array Value} (hw : HW Z a0) {n0 : Nat} {h : Heap} (q r e : Addr) (x y x0 x1 x2 x3 : Int64) (es : List Value) (g_q : n0 ≤ q) (g_r : n0 ≤ r) (g_e : n0 ≤ e) (O_q : Ob Z h q "com/example/apportion/apportion/IdleGaps" L_IG [(.ref r), (.ref e), (.int (0 : Int32)), (.int (0 : Int32))]) (A_r : Av Z h r .long [(.long x0), (.long x1), (.long x2), (.long x3)]) (A_e : Av Z h e .long es) (hes : es.length = 4) (hfe : EF es) (hnd : q ≠ r ∧ q ≠ e ∧ r ≠ e) : OMet l (⟨"com/example/apportion/apportion/IdleGaps", "append", "(JJ)V"⟩ : MethodName) B6 Z n0 #[(.ref q), (.long x), (.long y)] h (fun v h' => v = none ∧ ∃ (es' : List Value), Ob Z h' q "com/example/apportion/apportion/IdleGaps" L_IG [(.ref r), (.ref e), (.int (0 : Int32)), (.int (1 : Int32))] ∧ Av Z h' r .long [(.long x), (.long x1), (.long x2), (.long x3)] ∧ Av Z h' e .long es' ∧ es'.length = 4 ∧ EF es' ∧ Keep h h' [q, r, e]) := by
  refine OMet.of_wp (ls0 := #[.val (.ref q), .val (.long x), .second, .val (.long y), .second]) pl6 rfl rfl (fun m => own_entry 0 rfl rfl) ?_
  obtain ⟨n_qr, n_qe, n_re⟩ := id hnd
  have lt_q := O_q.lt
  have lt_r := A_r.lt
  have lt_e := A_e.lt
  have k32_0 : (0 : Int32).toInt = 0 := by decide
  have k32_1 : (1 : Int32).toInt = 1 := by decide
  have k32_4 : (4 : Int32).toInt = 4 := by decide
  have KE : Keep h h [q, r, e] := Keep.refl _ _
  refine WP.aloadN d6_0 rfl rfl (pc' := 1) rfl ?_
  refine WP.getf (i := 3) (v := (.int (0 : Int32))) d6_1 (w23 hw) O_q rfl rfl (pc' := 4) rfl ?_
  refine WP.aloadN d6_4 rfl rfl (pc' := 5) rfl ?_
  refine WP.getf (i := 0) (v := (.ref r)) d6_5 (w17 hw) O_q rfl rfl (pc' := 8) rfl ?_
  refine WP.alen d6_8 A_r (k := (4 : Int32)) rfl (pc' := 9) rfl ?_
  refine WP.icmpNe d6_9 (tgt := 16) (by decide) (pc' := 12) rfl (fun c9 => ?_) (fun c9 => ?_)
  ·
    refine WP.aloadN d6_16 rfl rfl (pc' := 17) rfl ?_
    refine WP.getf (i := 0) (v := (.ref r)) d6_17 (w17 hw) O_q rfl rfl (pc' := 20) rfl ?_
    refine WP.aloadN d6_20 rfl rfl (pc' := 21) rfl ?_
    refine WP.getf (i := 3) (v := (.int (0 : Int32))) d6_21 (w23 hw) O_q rfl rfl (pc' := 24) rfl ?_
    refine WP.lloadN d6_24 rfl (pc' := 25) rfl ?_
    refine WP.lastore 0 d6_25 A_r rfl (Nat.le_of_ble_eq_true rfl) g_r (pc' := 26) rfl ?_
    intro h1 K2 A_n
    replace KE := KE.trans K2 (own_all (Or.inl (by simp)) own_all0)
    replace O_q := O_q.keep K2 (own_cons (by first | assumption | exact Ne.symm (by assumption) | exact Nat.ne_of_lt (by assumption) | exact Nat.ne_of_gt (by assumption)) own_nil)
    replace A_e := A_e.keep K2 (own_cons (by first | assumption | exact Ne.symm (by assumption) | exact Nat.ne_of_lt (by assumption) | exact Nat.ne_of_gt (by assumption)) own_nil)
    replace A_r : Av Z h1 r .long [(.long x), (.long x1), (.long x2), (.long x3)] := A_n
    clear A_n
    refine WP.aloadN d6_26 rfl rfl (pc' := 27) rfl ?_
    refine WP.getf (i := 1) (v := (.ref e)) d6_27 (w19 hw) O_q rfl rfl (pc' := 30) rfl ?_
    refine WP.aloadN d6_30 rfl rfl (pc' := 31) rfl ?_
    refine WP.dup d6_31 rfl (pc' := 32) rfl ?_
    refine WP.getf (i := 3) (v := (.int (0 : Int32))) d6_32 (w23 hw) O_q rfl rfl (pc' := 35) rfl ?_
    refine WP.dupX1 d6_35 rfl rfl (pc' := 36) rfl ?_
    refine WP.iconst d6_36 (z := (1 : Int32)) rfl (pc' := 37) rfl ?_
    refine WP.iadd d6_37 (pc' := 38) rfl ?_
    rw [show (((0 : Int32) + (1 : Int32)) : Int32) = (1 : Int32) from by decide]
    refine WP.putf (i := 3) d6_38 (w23 hw) O_q (lay_IG hw) (by decide) rfl (Or.inl (w24 hw)) (w9 hw) (t := .int) (by decide) rfl rfl g_q (pc' := 41) rfl ?_
    intro h3 K4 O_n
    replace KE := KE.trans K4 (own_all (Or.inl (by simp)) own_all0)
    replace A_r := A_r.keep K4 (own_cons (by first | assumption | exact Ne.symm (by assumption) | exact Nat.ne_of_lt (by assumption) | exact Nat.ne_of_gt (by assumption)) own_nil)
    replace A_e := A_e.keep K4 (own_cons (by first | assumption | exact Ne.symm (by assumption) | exact Nat.ne_of_lt (by assumption) | exact Nat.ne_of_gt (by assumption)) own_nil)
    replace O_q : Ob Z h3 q "com/example/apportion/apportion/IdleGaps" L_IG [(.ref r), (.ref e), (.int (0 : Int32)), (.int (1 : Int32))] := O_n
    clear O_n
    refine WP.lloadN d6_41 rfl (pc' := 42) rfl ?_
    refine WP.lastore 0 d6_42 A_e rfl (by omega) g_e (pc' := 43) rfl ?_
    intro h5 K6 A_n
    replace KE := KE.trans K6 (own_all (Or.inl (by simp)) own_all0)
    replace O_q := O_q.keep K6 (own_cons (by first | assumption | exact Ne.symm (by assumption) | exact Nat.ne_of_lt (by assumption) | exact Nat.ne_of_gt (by assumption)) own_nil)
    replace A_r := A_r.keep K6 (own_cons (by first | assumption | exact Ne.symm (by assumption) | exact Nat.ne_of_lt (by assumption) | exact Nat.ne_of_gt (by assumption)) own_nil)
    replace A_e := A_n
    exact WP.ret0 d6_43 rfl (by decide) (by decide) ⟨rfl, _, O_q, A_r, A_e, by simpa using hes, hfe.set, KE⟩
  exfalso; omega
theorem app1_met {l : Launch} {Z : State} {a0 : Array Value} (hw : HW Z a0) {n0 : Nat} {h : Heap} (q r e : Addr) (x y x0 x1 x2 x3 : Int64) (es : List Value) (g_q : n0 ≤ q) (g_r : n0 ≤ r) (g_e : n0 ≤ e) (O_q : Ob Z h q "com/example/apportion/apportion/IdleGaps" L_IG [(.ref r), (.ref e), (.int (0 : Int32)), (.int (1 : Int32))]) (A_r : Av Z h r .long [(.long x0), (.long x1), (.long x2), (.long x3)]) (A_e : Av Z h e .long es) (hes : es.length = 4) (hfe : EF es) (hnd : q ≠ r ∧ q ≠ e ∧ r ≠ e) : OMet l (⟨"com/example/apportion/apportion/IdleGaps", "append", "(JJ)V"⟩ : MethodName) B6 Z n0 #[(.ref q), (.long x), (.long y)] h (fun v h' => v = none ∧ ∃ (es' : List Value), Ob Z h' q "com/example/apportion/apportion/IdleGaps" L_IG [(.ref r), (.ref e), (.int (0 : Int32)), (.int (2 : Int32))] ∧ Av Z h' r .long [(.long x0), (.long x), (.long x2), (.long x3)] ∧ Av Z h' e .long es' ∧ es'.length = 4 ∧ EF es' ∧ Keep h h' [q, r, e]) := by
  refine OMet.of_wp (ls0 := #[.val (.ref q), .val (.long x), .second, .val (.long y), .second]) pl6 rfl rfl (fun m => own_entry 0 rfl rfl) ?_
  obtain ⟨n_qr, n_qe, n_re⟩ := id hnd
  have lt_q := O_q.lt
  have lt_r := A_r.lt
  have lt_e := A_e.lt
  have k32_0 : (0 : Int32).toInt = 0 := by decide
  have k32_1 : (1 : Int32).toInt = 1 := by decide
  have k32_2 : (2 : Int32).toInt = 2 := by decide
  have k32_4 : (4 : Int32).toInt = 4 := by decide
  have KE : Keep h h [q, r, e] := Keep.refl _ _
  refine WP.aloadN d6_0 rfl rfl (pc' := 1) rfl ?_
  refine WP.getf (i := 3) (v := (.int (1 : Int32))) d6_1 (w23 hw) O_q rfl rfl (pc' := 4) rfl ?_
  refine WP.aloadN d6_4 rfl rfl (pc' := 5) rfl ?_
  refine WP.getf (i := 0) (v := (.ref r)) d6_5 (w17 hw) O_q rfl rfl (pc' := 8) rfl ?_
  refine WP.alen d6_8 A_r (k := (4 : Int32)) rfl (pc' := 9) rfl ?_
  refine WP.icmpNe d6_9 (tgt := 16) (by decide) (pc' := 12) rfl (fun c9 => ?_) (fun c9 => ?_)
  ·
    refine WP.aloadN d6_16 rfl rfl (pc' := 17) rfl ?_
    refine WP.getf (i := 0) (v := (.ref r)) d6_17 (w17 hw) O_q rfl rfl (pc' := 20) rfl ?_
    refine WP.aloadN d6_20 rfl rfl (pc' := 21) rfl ?_
    refine WP.getf (i := 3) (v := (.int (1 : Int32))) d6_21 (w23 hw) O_q rfl rfl (pc' := 24) rfl ?_
    refine WP.lloadN d6_24 rfl (pc' := 25) rfl ?_
    refine WP.lastore 1 d6_25 A_r rfl (Nat.le_of_ble_eq_true rfl) g_r (pc' := 26) rfl ?_
    intro h1 K2 A_n
    replace KE := KE.trans K2 (own_all (Or.inl (by simp)) own_all0)
    replace O_q := O_q.keep K2 (own_cons (by first | assumption | exact Ne.symm (by assumption) | exact Nat.ne_of_lt (by assumption) | exact Nat.ne_of_gt (by assumption)) own_nil)
    replace A_e := A_e.keep K2 (own_cons (by first | assumption | exact Ne.symm (by assumption) | exact Nat.ne_of_lt (by assumption) | exact Nat.ne_of_gt (by assumption)) own_nil)
    replace A_r : Av Z h1 r .long [(.long x0), (.long x), (.long x2), (.long x3)] := A_n
    clear A_n
    refine WP.aloadN d6_26 rfl rfl (pc' := 27) rfl ?_
    refine WP.getf (i := 1) (v := (.ref e)) d6_27 (w19 hw) O_q rfl rfl (pc' := 30) rfl ?_
    refine WP.aloadN d6_30 rfl rfl (pc' := 31) rfl ?_
    refine WP.dup d6_31 rfl (pc' := 32) rfl ?_
    refine WP.getf (i := 3) (v := (.int (1 : Int32))) d6_32 (w23 hw) O_q rfl rfl (pc' := 35) rfl ?_
    refine WP.dupX1 d6_35 rfl rfl (pc' := 36) rfl ?_
    refine WP.iconst d6_36 (z := (1 : Int32)) rfl (pc' := 37) rfl ?_
    refine WP.iadd d6_37 (pc' := 38) rfl ?_
    rw [show (((1 : Int32) + (1 : Int32)) : Int32) = (2 : Int32) from by decide]
    refine WP.putf (i := 3) d6_38 (w23 hw) O_q (lay_IG hw) (by decide) rfl (Or.inl (w24 hw)) (w9 hw) (t := .int) (by decide) rfl rfl g_q (pc' := 41) rfl ?_
    intro h3 K4 O_n
    replace KE := KE.trans K4 (own_all (Or.inl (by simp)) own_all0)
    replace A_r := A_r.keep K4 (own_cons (by first | assumption | exact Ne.symm (by assumption) | exact Nat.ne_of_lt (by assumption) | exact Nat.ne_of_gt (by assumption)) own_nil)
    replace A_e := A_e.keep K4 (own_cons (by first | assumption | exact Ne.symm (by assumption) | exact Nat.ne_of_lt (by assumption) | exact Nat.ne_of_gt (by assumption)) own_nil)
    replace O_q : Ob Z h3 q "com/example/apportion/apportion/IdleGaps" L_IG [(.ref r), (.ref e), (.int (0 : Int32)), (.int (2 : Int32))] := O_n
    clear O_n
    refine WP.lloadN d6_41 rfl (pc' := 42) rfl ?_
    refine WP.lastore 1 d6_42 A_e rfl (by omega) g_e (pc' := 43) rfl ?_
    intro h5 K6 A_n
    replace KE := KE.trans K6 (own_all (Or.inl (by simp)) own_all0)
    replace O_q := O_q.keep K6 (own_cons (by first | assumption | exact Ne.symm (by assumption) | exact Nat.ne_of_lt (by assumption) | exact Nat.ne_of_gt (by assumption)) own_nil)
    replace A_r := A_r.keep K6 (own_cons (by first | assumption | exact Ne.symm (by assumption) | exact Nat.ne_of_lt (by assumption) | exact Nat.ne_of_gt (by assumption)) own_nil)
    replace A_e := A_n
    exact WP.ret0 d6_43 rfl (by decide) (by decide) ⟨rfl, _, O_q, A_r, A_e, by simpa using hes, hfe.set, KE⟩
  exfalso; omega
theorem app2_met {l : Launch} {Z : State} {a0 : Array Value} (hw : HW Z a0) {n0 : Nat} {h : Heap} (q r e : Addr) (x y x0 x1 x2 x3 : Int64) (es : List Value) (g_q : n0 ≤ q) (g_r : n0 ≤ r) (g_e : n0 ≤ e) (O_q : Ob Z h q "com/example/apportion/apportion/IdleGaps" L_IG [(.ref r), (.ref e), (.int (0 : Int32)), (.int (2 : Int32))]) (A_r : Av Z h r .long [(.long x0), (.long x1), (.long x2), (.long x3)]) (A_e : Av Z h e .long es) (hes : es.length = 4) (hfe : EF es) (hnd : q ≠ r ∧ q ≠ e ∧ r ≠ e) : OMet l (⟨"com/example/apportion/apportion/IdleGaps", "append", "(JJ)V"⟩ : MethodName) B6 Z n0 #[(.ref q), (.long x), (.long y)] h (fun v h' => v = none ∧ ∃ (es' : List Value), Ob Z h' q "com/example/apportion/apportion/IdleGaps" L_IG [(.ref r), (.ref e), (.int (0 : Int32)), (.int (3 : Int32))] ∧ Av Z h' r .long [(.long x0), (.long x1), (.long x), (.long x3)] ∧ Av Z h' e .long es' ∧ es'.length = 4 ∧ EF es' ∧ Keep h h' [q, r, e]) := by
  refine OMet.of_wp (ls0 := #[.val (.ref q), .val (.long x), .second, .val (.long y), .second]) pl6 rfl rfl (fun m => own_entry 0 rfl rfl) ?_
  obtain ⟨n_qr, n_qe, n_re⟩ := id hnd
  have lt_q := O_q.lt
  have lt_r := A_r.lt
  have lt_e := A_e.lt
  have k32_0 : (0 : Int32).toInt = 0 := by decide
  have k32_1 : (1 : Int32).toInt = 1 := by decide
  have k32_2 : (2 : Int32).toInt = 2 := by decide
  have k32_3 : (3 : Int32).toInt = 3 := by decide
  have k32_4 : (4 : Int32).toInt = 4 := by decide
  have KE : Keep h h [q, r, e] := Keep.refl _ _
  refine WP.aloadN d6_0 rfl rfl (pc' := 1) rfl ?_
  refine WP.getf (i := 3) (v := (.int (2 : Int32))) d6_1 (w23 hw) O_q rfl rfl (pc' := 4) rfl ?_
  refine WP.aloadN d6_4 rfl rfl (pc' := 5) rfl ?_
  refine WP.getf (i := 0) (v := (.ref r)) d6_5 (w17 hw) O_q rfl rfl (pc' := 8) rfl ?_
  refine WP.alen d6_8 A_r (k := (4 : Int32)) rfl (pc' := 9) rfl ?_
  refine WP.icmpNe d6_9 (tgt := 16) (by decide) (pc' := 12) rfl (fun c9 => ?_) (fun c9 => ?_)
  ·
    refine WP.aloadN d6_16 rfl rfl (pc' := 17) rfl ?_
    refine WP.getf (i := 0) (v := (.ref r)) d6_17 (w17 hw) O_q rfl rfl (pc' := 20) rfl ?_
    refine WP.aloadN d6_20 rfl rfl (pc' := 21) rfl ?_
    refine WP.getf (i := 3) (v := (.int (2 : Int32))) d6_21 (w23 hw) O_q rfl rfl (pc' := 24) rfl ?_
    refine WP.lloadN d6_24 rfl (pc' := 25) rfl ?_
    refine WP.lastore 2 d6_25 A_r rfl (Nat.le_of_ble_eq_true rfl) g_r (pc' := 26) rfl ?_
    intro h1 K2 A_n
    replace KE := KE.trans K2 (own_all (Or.inl (by simp)) own_all0)
    replace O_q := O_q.keep K2 (own_cons (by first | assumption | exact Ne.symm (by assumption) | exact Nat.ne_of_lt (by assumption) | exact Nat.ne_of_gt (by assumption)) own_nil)
    replace A_e := A_e.keep K2 (own_cons (by first | assumption | exact Ne.symm (by assumption) | exact Nat.ne_of_lt (by assumption) | exact Nat.ne_of_gt (by assumption)) own_nil)
    replace A_r : Av Z h1 r .long [(.long x0), (.long x1), (.long x), (.long x3)] := A_n
    clear A_n
    refine WP.aloadN d6_26 rfl rfl (pc' := 27) rfl ?_
    refine WP.getf (i := 1) (v := (.ref e)) d6_27 (w19 hw) O_q rfl rfl (pc' := 30) rfl ?_
    refine WP.aloadN d6_30 rfl rfl (pc' := 31) rfl ?_
    refine WP.dup d6_31 rfl (pc' := 32) rfl ?_
    refine WP.getf (i := 3) (v := (.int (2 : Int32))) d6_32 (w23 hw) O_q rfl rfl (pc' := 35) rfl ?_
    refine WP.dupX1 d6_35 rfl rfl (pc' := 36) rfl ?_
    refine WP.iconst d6_36 (z := (1 : Int32)) rfl (pc' := 37) rfl ?_
    refine WP.iadd d6_37 (pc' := 38) rfl ?_
    rw [show (((2 : Int32) + (1 : Int32)) : Int32) = (3 : Int32) from by decide]
    refine WP.putf (i := 3) d6_38 (w23 hw) O_q (lay_IG hw) (by decide) rfl (Or.inl (w24 hw)) (w9 hw) (t := .int) (by decide) rfl rfl g_q (pc' := 41) rfl ?_
    intro h3 K4 O_n
    replace KE := KE.trans K4 (own_all (Or.inl (by simp)) own_all0)
    replace A_r := A_r.keep K4 (own_cons (by first | assumption | exact Ne.symm (by assumption) | exact Nat.ne_of_lt (by assumption) | exact Nat.ne_of_gt (by assumption)) own_nil)
    replace A_e := A_e.keep K4 (own_cons (by first | assumption | exact Ne.symm (by assumption) | exact Nat.ne_of_lt (by assumption) | exact Nat.ne_of_gt (by assumption)) own_nil)
    replace O_q : Ob Z h3 q "com/example/apportion/apportion/IdleGaps" L_IG [(.ref r), (.ref e), (.int (0 : Int32)), (.int (3 : Int32))] := O_n
    clear O_n
    refine WP.lloadN d6_41 rfl (pc' := 42) rfl ?_
    refine WP.lastore 2 d6_42 A_e rfl (by omega) g_e (pc' := 43) rfl ?_
    intro h5 K6 A_n
    replace KE := KE.trans K6 (own_all (Or.inl (by simp)) own_all0)
    replace O_q := O_q.keep K6 (own_cons (by first | assumption | exact Ne.symm (by assumption) | exact Nat.ne_of_lt (by assumption) | exact Nat.ne_of_gt (by assumption)) own_nil)
    replace A_r := A_r.keep K6 (own_cons (by first | assumption | exact Ne.symm (by assumption) | exact Nat.ne_of_lt (by assumption) | exact Nat.ne_of_gt (by assumption)) own_nil)
    replace A_e := A_n
    exact WP.ret0 d6_43 rfl (by decide) (by decide) ⟨rfl, _, O_q, A_r, A_e, by simpa using hes, hfe.set, KE⟩
  exfalso; omega
theorem app3_met {l : Launch} {Z : State} {a0 : Array Value} (hw : HW Z a0) {n0 : Nat} {h : Heap} (q r e : Addr) (x y x0 x1 x2 x3 : Int64) (es : List Value) (g_q : n0 ≤ q) (g_r : n0 ≤ r) (g_e : n0 ≤ e) (O_q : Ob Z h q "com/example/apportion/apportion/IdleGaps" L_IG [(.ref r), (.ref e), (.int (0 : Int32)), (.int (3 : Int32))]) (A_r : Av Z h r .long [(.long x0), (.long x1), (.long x2), (.long x3)]) (A_e : Av Z h e .long es) (hes : es.length = 4) (hfe : EF es) (hnd : q ≠ r ∧ q ≠ e ∧ r ≠ e) : OMet l (⟨"com/example/apportion/apportion/IdleGaps", "append", "(JJ)V"⟩ : MethodName) B6 Z n0 #[(.ref q), (.long x), (.long y)] h (fun v h' => v = none ∧ ∃ (es' : List Value), Ob Z h' q "com/example/apportion/apportion/IdleGaps" L_IG [(.ref r), (.ref e), (.int (0 : Int32)), (.int (4 : Int32))] ∧ Av Z h' r .long [(.long x0), (.long x1), (.long x2), (.long x)] ∧ Av Z h' e .long es' ∧ es'.length = 4 ∧ EF es' ∧ Keep h h' [q, r, e]) := by
  refine OMet.of_wp (ls0 := #[.val (.ref q), .val (.long x), .second, .val (.long y), .second]) pl6 rfl rfl (fun m => own_entry 0 rfl rfl) ?_
  obtain ⟨n_qr, n_qe, n_re⟩ := id hnd
  have lt_q := O_q.lt
  have lt_r := A_r.lt
  have lt_e := A_e.lt
  have k32_0 : (0 : Int32).toInt = 0 := by decide
  have k32_1 : (1 : Int32).toInt = 1 := by decide
  have k32_3 : (3 : Int32).toInt = 3 := by decide
  have k32_4 : (4 : Int32).toInt = 4 := by decide
  have KE : Keep h h [q, r, e] := Keep.refl _ _
  refine WP.aloadN d6_0 rfl rfl (pc' := 1) rfl ?_
  refine WP.getf (i := 3) (v := (.int (3 : Int32))) d6_1 (w23 hw) O_q rfl rfl (pc' := 4) rfl ?_
  refine WP.aloadN d6_4 rfl rfl (pc' := 5) rfl ?_
  refine WP.getf (i := 0) (v := (.ref r)) d6_5 (w17 hw) O_q rfl rfl (pc' := 8) rfl ?_
  refine WP.alen d6_8 A_r (k := (4 : Int32)) rfl (pc' := 9) rfl ?_
  refine WP.icmpNe d6_9 (tgt := 16) (by decide) (pc' := 12) rfl (fun c9 => ?_) (fun c9 => ?_)
  ·
    refine WP.aloadN d6_16 rfl rfl (pc' := 17) rfl ?_
    refine WP.getf (i := 0) (v := (.ref r)) d6_17 (w17 hw) O_q rfl rfl (pc' := 20) rfl ?_
    refine WP.aloadN d6_20 rfl rfl (pc' := 21) rfl ?_
    refine WP.getf (i := 3) (v := (.int (3 : Int32))) d6_21 (w23 hw) O_q rfl rfl (pc' := 24) rfl ?_
    refine WP.lloadN d6_24 rfl (pc' := 25) rfl ?_
    refine WP.lastore 3 d6_25 A_r rfl (Nat.le_of_ble_eq_true rfl) g_r (pc' := 26) rfl ?_
    intro h1 K2 A_n
    replace KE := KE.trans K2 (own_all (Or.inl (by simp)) own_all0)
    replace O_q := O_q.keep K2 (own_cons (by first | assumption | exact Ne.symm (by assumption) | exact Nat.ne_of_lt (by assumption) | exact Nat.ne_of_gt (by assumption)) own_nil)
    replace A_e := A_e.keep K2 (own_cons (by first | assumption | exact Ne.symm (by assumption) | exact Nat.ne_of_lt (by assumption) | exact Nat.ne_of_gt (by assumption)) own_nil)
    replace A_r : Av Z h1 r .long [(.long x0), (.long x1), (.long x2), (.long x)] := A_n
    clear A_n
    refine WP.aloadN d6_26 rfl rfl (pc' := 27) rfl ?_
    refine WP.getf (i := 1) (v := (.ref e)) d6_27 (w19 hw) O_q rfl rfl (pc' := 30) rfl ?_
    refine WP.aloadN d6_30 rfl rfl (pc' := 31) rfl ?_
    refine WP.dup d6_31 rfl (pc' := 32) rfl ?_
    refine WP.getf (i := 3) (v := (.int (3 : Int32))) d6_32 (w23 hw) O_q rfl rfl (pc' := 35) rfl ?_
    refine WP.dupX1 d6_35 rfl rfl (pc' := 36) rfl ?_
    refine WP.iconst d6_36 (z := (1 : Int32)) rfl (pc' := 37) rfl ?_
    refine WP.iadd d6_37 (pc' := 38) rfl ?_
    rw [show (((3 : Int32) + (1 : Int32)) : Int32) = (4 : Int32) from by decide]
    refine WP.putf (i := 3) d6_38 (w23 hw) O_q (lay_IG hw) (by decide) rfl (Or.inl (w24 hw)) (w9 hw) (t := .int) (by decide) rfl rfl g_q (pc' := 41) rfl ?_
    intro h3 K4 O_n
    replace KE := KE.trans K4 (own_all (Or.inl (by simp)) own_all0)
    replace A_r := A_r.keep K4 (own_cons (by first | assumption | exact Ne.symm (by assumption) | exact Nat.ne_of_lt (by assumption) | exact Nat.ne_of_gt (by assumption)) own_nil)
    replace A_e := A_e.keep K4 (own_cons (by first | assumption | exact Ne.symm (by assumption) | exact Nat.ne_of_lt (by assumption) | exact Nat.ne_of_gt (by assumption)) own_nil)
    replace O_q : Ob Z h3 q "com/example/apportion/apportion/IdleGaps" L_IG [(.ref r), (.ref e), (.int (0 : Int32)), (.int (4 : Int32))] := O_n
    clear O_n
    refine WP.lloadN d6_41 rfl (pc' := 42) rfl ?_
    refine WP.lastore 3 d6_42 A_e rfl (by omega) g_e (pc' := 43) rfl ?_
    intro h5 K6 A_n
    replace KE := KE.trans K6 (own_all (Or.inl (by simp)) own_all0)
    replace O_q := O_q.keep K6 (own_cons (by first | assumption | exact Ne.symm (by assumption) | exact Nat.ne_of_lt (by assumption) | exact Nat.ne_of_gt (by assumption)) own_nil)
    replace A_r := A_r.keep K6 (own_cons (by first | assumption | exact Ne.symm (by assumption) | exact Nat.ne_of_lt (by assumption) | exact Nat.ne_of_gt (by assumption)) own_nil)
    replace A_e := A_n
    exact WP.ret0 d6_43 rfl (by decide) (by decide) ⟨rfl, _, O_q, A_r, A_e, by simpa using hes, hfe.set, KE⟩
  exfalso; omega
theorem app4_met {l : Launch} {Z : State} {a0 : Array Value} (hw : HW Z a0) {n0 : Nat} {h : Heap} (q r e : Addr) (x y x0 x1 x2 x3 : Int64) (es : List Value) (g_q : n0 ≤ q) (g_r : n0 ≤ r) (g_e : n0 ≤ e) (O_q : Ob Z h q "com/example/apportion/apportion/IdleGaps" L_IG [(.ref r), (.ref e), (.int (0 : Int32)), (.int (4 : Int32))]) (A_r : Av Z h r .long [(.long x0), (.long x1), (.long x2), (.long x3)]) (A_e : Av Z h e .long es) (hes : es.length = 4) (hfe : EF es) (hnd : q ≠ r ∧ q ≠ e ∧ r ≠ e) : OMet l (⟨"com/example/apportion/apportion/IdleGaps", "append", "(JJ)V"⟩ : MethodName) B6 Z n0 #[(.ref q), (.long x), (.long y)] h (fun v h' => v = none ∧ ∃ (r' e' : Addr) (es' : List Value), Ob Z h' q "com/example/apportion/apportion/IdleGaps" L_IG [(.ref r'), (.ref e'), (.int (0 : Int32)), (.int (5 : Int32))] ∧ Av Z h' r' .long [(.long x0), (.long x1), (.long x2), (.long x3), (.long x), (.long 0), (.long 0), (.long 0)] ∧ Av Z h' e' .long es' ∧ es'.length = 8 ∧ n0 ≤ r' ∧ n0 ≤ e' ∧ (q ≠ r' ∧ q ≠ e' ∧ r' ≠ e') ∧ Keep h h' [q]) := by
  refine OMet.of_wp (ls0 := #[.val (.ref q), .val (.long x), .second, .val (.long y), .second]) pl6 rfl rfl (fun m => own_entry 0 rfl rfl) ?_
  obtain ⟨n_qr, n_qe, n_re⟩ := id hnd
  have lt_q := O_q.lt
  have lt_r := A_r.lt
  have lt_e := A_e.lt
  have k32_0 : (0 : Int32).toInt = 0 := by decide
  have k32_1 : (1 : Int32).toInt = 1 := by decide
  have k32_4 : (4 : Int32).toInt = 4 := by decide
  have k32_5 : (5 : Int32).toInt = 5 := by decide
  have KE : Keep h h [q] := Keep.refl _ _
  refine WP.aloadN d6_0 rfl rfl (pc' := 1) rfl ?_
  refine WP.getf (i := 3) (v := (.int (4 : Int32))) d6_1 (w23 hw) O_q rfl rfl (pc' := 4) rfl ?_
  refine WP.aloadN d6_4 rfl rfl (pc' := 5) rfl ?_
  refine WP.getf (i := 0) (v := (.ref r)) d6_5 (w17 hw) O_q rfl rfl (pc' := 8) rfl ?_
  refine WP.alen d6_8 A_r (k := (4 : Int32)) rfl (pc' := 9) rfl ?_
  refine WP.icmpNe d6_9 (tgt := 16) (by decide) (pc' := 12) rfl (fun c9 => ?_) (fun c9 => ?_)
  · exfalso; omega
  refine WP.aloadN d6_12 rfl rfl (pc' := 13) rfl ?_
  refine WP.callP (a := q) (y0 := (⟨"com/example/apportion/apportion/IdleGaps", "clear", "()V"⟩ : MethodName)) (y := (⟨"com/example/apportion/apportion/IdleGaps", "spread", "()V"⟩ : MethodName)) (By := B10) (as := []) (rest := []) d6_13 (w54 hw) (w55 hw) (w56 hw) (w29 hw) (w10 hw) (w57 hw) rfl (by decide) O_q.1 (spr_met hw q r e x0 x1 x2 x3 es g_q O_q A_r A_e hes hfe hnd) pd_2 rfl rfl rfl (by decide) (Nat.le_of_ble_eq_true rfl) (by decide) (by decide) (pc' := 16) rfl ?_
  rintro _ h1 ⟨rfl, r2, e2, ue, O_n, A_r2, A_e2, hue, g_r2, g_e2, hnd2, Ks, sz2⟩
  replace KE := KE.trans Ks (own_all (Or.inl (by simp)) own_all0)
  replace A_r := A_r.keep Ks (own_cons (by first | assumption | exact Ne.symm (by assumption) | exact Nat.ne_of_lt (by assumption) | exact Nat.ne_of_gt (by assumption)) own_nil)
  replace A_e := A_e.keep Ks (own_cons (by first | assumption | exact Ne.symm (by assumption) | exact Nat.ne_of_lt (by assumption) | exact Nat.ne_of_gt (by assumption)) own_nil)
  replace O_q := O_n
  have sz_r2 : h.size ≤ r2 := sz2.1
  have sz_e2 : h.size ≤ e2 := sz2.2
  obtain ⟨n_qr2, n_qe2, n_re2⟩ := id hnd2
  show WP _ _ _ _ _ _ _ _ _ _ []
  refine WP.aloadN d6_16 rfl rfl (pc' := 17) rfl ?_
  refine WP.getf (i := 0) (v := (.ref r2)) d6_17 (w17 hw) O_q rfl rfl (pc' := 20) rfl ?_
  refine WP.aloadN d6_20 rfl rfl (pc' := 21) rfl ?_
  refine WP.getf (i := 3) (v := (.int (4 : Int32))) d6_21 (w23 hw) O_q rfl rfl (pc' := 24) rfl ?_
  refine WP.lloadN d6_24 rfl (pc' := 25) rfl ?_
  refine WP.lastore 4 d6_25 A_r2 rfl (Nat.le_of_ble_eq_true rfl) g_r2 (pc' := 26) rfl ?_
  intro h2 K3 A_n
  replace KE := KE.trans K3 (own_all (Or.inr sz_r2) own_all0)
  replace O_q := O_q.keep K3 (own_cons (by first | assumption | exact Ne.symm (by assumption) | exact Nat.ne_of_lt (by assumption) | exact Nat.ne_of_gt (by assumption)) own_nil)
  replace A_e2 := A_e2.keep K3 (own_cons (by first | assumption | exact Ne.symm (by assumption) | exact Nat.ne_of_lt (by assumption) | exact Nat.ne_of_gt (by assumption)) own_nil)
  replace A_r2 : Av Z h2 r2 .long [(.long x0), (.long x1), (.long x2), (.long x3), (.long x), (.long 0), (.long 0), (.long 0)] := A_n
  clear A_n
  refine WP.aloadN d6_26 rfl rfl (pc' := 27) rfl ?_
  refine WP.getf (i := 1) (v := (.ref e2)) d6_27 (w19 hw) O_q rfl rfl (pc' := 30) rfl ?_
  refine WP.aloadN d6_30 rfl rfl (pc' := 31) rfl ?_
  refine WP.dup d6_31 rfl (pc' := 32) rfl ?_
  refine WP.getf (i := 3) (v := (.int (4 : Int32))) d6_32 (w23 hw) O_q rfl rfl (pc' := 35) rfl ?_
  refine WP.dupX1 d6_35 rfl rfl (pc' := 36) rfl ?_
  refine WP.iconst d6_36 (z := (1 : Int32)) rfl (pc' := 37) rfl ?_
  refine WP.iadd d6_37 (pc' := 38) rfl ?_
  rw [show (((4 : Int32) + (1 : Int32)) : Int32) = (5 : Int32) from by decide]
  refine WP.putf (i := 3) d6_38 (w23 hw) O_q (lay_IG hw) (by decide) rfl (Or.inl (w24 hw)) (w9 hw) (t := .int) (by decide) rfl rfl g_q (pc' := 41) rfl ?_
  intro h4 K5 O_n
  replace KE := KE.trans K5 (own_all (Or.inl (by simp)) own_all0)
  replace A_r2 := A_r2.keep K5 (own_cons (by first | assumption | exact Ne.symm (by assumption) | exact Nat.ne_of_lt (by assumption) | exact Nat.ne_of_gt (by assumption)) own_nil)
  replace A_e2 := A_e2.keep K5 (own_cons (by first | assumption | exact Ne.symm (by assumption) | exact Nat.ne_of_lt (by assumption) | exact Nat.ne_of_gt (by assumption)) own_nil)
  replace O_q : Ob Z h4 q "com/example/apportion/apportion/IdleGaps" L_IG [(.ref r2), (.ref e2), (.int (0 : Int32)), (.int (5 : Int32))] := O_n
  clear O_n
  refine WP.lloadN d6_41 rfl (pc' := 42) rfl ?_
  refine WP.lastore 4 d6_42 A_e2 rfl (by omega) g_e2 (pc' := 43) rfl ?_
  intro h6 K7 A_n
  replace KE := KE.trans K7 (own_all (Or.inr sz_e2) own_all0)
  replace O_q := O_q.keep K7 (own_cons (by first | assumption | exact Ne.symm (by assumption) | exact Nat.ne_of_lt (by assumption) | exact Nat.ne_of_gt (by assumption)) own_nil)
  replace A_r2 := A_r2.keep K7 (own_cons (by first | assumption | exact Ne.symm (by assumption) | exact Nat.ne_of_lt (by assumption) | exact Nat.ne_of_gt (by assumption)) own_nil)
  replace A_e2 := A_n
  exact WP.ret0 d6_43 rfl (by decide) (by decide) ⟨rfl, r2, e2, _, O_q, A_r2, A_e2, by simpa using hue, g_r2, g_e2, hnd2, KE⟩
theorem flo_0_0 {l : Launch} {Z : State} {a0 : Array Value} (hw : HW Z a0) {n0 : Nat} {h : Heap} (q r e : Addr) (t x0 x1 x2 x3 : Int64) (O_q : Ob Z h q "com/example/apportion/apportion/IdleGaps" L_IG [(.ref r), (.ref e), (.int (0 : Int32)), (.int (0 : Int32))]) (A_r : Av Z h r .long [(.long x0), (.long x1), (.long x2), (.long x3)]) (hs : True) : OMet l (⟨"com/example/apportion/apportion/IdleGaps", "floor", "(J)I"⟩ : MethodName) B8 Z n0 #[(.ref q), (.long t)] h (fun v h' => h = h' ∧ ∃ r : Int32, v = some (.int r) ∧ -1 ≤ r.toInt ∧ r.toInt < 0 ∧ True) := by
  refine OMet.of_wp (ls0 := #[.val (.ref q), .val (.long t), .second, .unset, .unset, .unset]) pl8 rfl rfl (fun m => own_entry 3 rfl rfl) ?_
  have k32_m1 : (-1 : Int32).toInt = -1 := by decide
  have k32_0 : (0 : Int32).toInt = 0 := by decide
  have k32_1 : (1 : Int32).toInt = 1 := by decide
  refine WP.aloadN d8_0 rfl rfl (pc' := 1) rfl ?_
  refine WP.getf (i := 2) (v := (.int (0 : Int32))) d8_1 (w21 hw) O_q rfl rfl (pc' := 4) rfl ?_
  refine WP.istoreN d8_4 (pc' := 5) rfl (ls' := #[.val (.ref q), .val (.long t), .second, .val (.int (0 : Int32)), .unset, .unset]) rfl ?_
  refine WP.aloadN d8_5 rfl rfl (pc' := 6) rfl ?_
  refine WP.getf (i := 3) (v := (.int (0 : Int32))) d8_6 (w23 hw) O_q rfl rfl (pc' := 9) rfl ?_
  refine WP.istore d8_9 (pc' := 11) rfl (ls' := #[.val (.ref q), .val (.long t), .second, .val (.int (0 : Int32)), .val (.int (0 : Int32)), .unset]) rfl ?_
  refine WP.iloadN d8_11 rfl (pc' := 12) rfl ?_
  refine WP.iload d8_12 rfl (pc' := 14) rfl ?_
  refine WP.icmpGe d8_14 (tgt := 52) (by decide) (pc' := 17) rfl (fun c14 => ?_) (fun c14 => ?_)
  ·
    refine WP.iloadN d8_52 rfl (pc' := 53) rfl ?_
    refine WP.iconst d8_53 (z := (1 : Int32)) rfl (pc' := 54) rfl ?_
    refine WP.isub d8_54 (pc' := 55) rfl ?_
    rw [show (((0 : Int32) - (1 : Int32)) : Int32) = (-1 : Int32) from by decide]
    refine WP.aloadN d8_55 rfl rfl (pc' := 56) rfl ?_
    refine WP.getf (i := 2) (v := (.int (0 : Int32))) d8_56 (w21 hw) O_q rfl rfl (pc' := 59) rfl ?_
    refine WP.isub d8_59 (pc' := 60) rfl ?_
    rw [show (((-1 : Int32) - (0 : Int32)) : Int32) = (-1 : Int32) from by decide]
    exact WP.retI d8_60 rfl (by decide) (by decide) ⟨rfl, _, rfl, by omega, by omega, trivial⟩
  exfalso; omega
theorem flo_0_1 {l : Launch} {Z : State} {a0 : Array Value} (hw : HW Z a0) {n0 : Nat} {h : Heap} (q r e : Addr) (t x0 x1 x2 x3 : Int64) (O_q : Ob Z h q "com/example/apportion/apportion/IdleGaps" L_IG [(.ref r), (.ref e), (.int (0 : Int32)), (.int (1 : Int32))]) (A_r : Av Z h r .long [(.long x0), (.long x1), (.long x2), (.long x3)]) (hs : True) : OMet l (⟨"com/example/apportion/apportion/IdleGaps", "floor", "(J)I"⟩ : MethodName) B8 Z n0 #[(.ref q), (.long t)] h (fun v h' => h = h' ∧ ∃ r : Int32, v = some (.int r) ∧ -1 ≤ r.toInt ∧ r.toInt < 1 ∧ ((x0.toInt ≤ t.toInt ∧ 0 ≤ r.toInt) ∨ (t.toInt < x0.toInt ∧ r.toInt < 0))) := by
  refine OMet.of_wp (ls0 := #[.val (.ref q), .val (.long t), .second, .unset, .unset, .unset]) pl8 rfl rfl (fun m => own_entry 3 rfl rfl) ?_
  have k32_m1 : (-1 : Int32).toInt = -1 := by decide
  have k32_0 : (0 : Int32).toInt = 0 := by decide
  have k32_1 : (1 : Int32).toInt = 1 := by decide
  refine WP.aloadN d8_0 rfl rfl (pc' := 1) rfl ?_
  refine WP.getf (i := 2) (v := (.int (0 : Int32))) d8_1 (w21 hw) O_q rfl rfl (pc' := 4) rfl ?_
  refine WP.istoreN d8_4 (pc' := 5) rfl (ls' := #[.val (.ref q), .val (.long t), .second, .val (.int (0 : Int32)), .unset, .unset]) rfl ?_
  refine WP.aloadN d8_5 rfl rfl (pc' := 6) rfl ?_
  refine WP.getf (i := 3) (v := (.int (1 : Int32))) d8_6 (w23 hw) O_q rfl rfl (pc' := 9) rfl ?_
  refine WP.istore d8_9 (pc' := 11) rfl (ls' := #[.val (.ref q), .val (.long t), .second, .val (.int (0 : Int32)), .val (.int (1 : Int32)), .unset]) rfl ?_
  refine WP.iloadN d8_11 rfl (pc' := 12) rfl ?_
  refine WP.iload d8_12 rfl (pc' := 14) rfl ?_
  refine WP.icmpGe d8_14 (tgt := 52) (by decide) (pc' := 17) rfl (fun c14 => ?_) (fun c14 => ?_)
  · exfalso; omega
  refine WP.iloadN d8_17 rfl (pc' := 18) rfl ?_
  refine WP.iload d8_18 rfl (pc' := 20) rfl ?_
  refine WP.iadd d8_20 (pc' := 21) rfl ?_
  rw [show (((0 : Int32) + (1 : Int32)) : Int32) = (1 : Int32) from by decide]
  refine WP.iconst d8_21 (z := (1 : Int32)) rfl (pc' := 22) rfl ?_
  refine WP.iushr d8_22 (pc' := 23) rfl ?_
  rw [show (ushr (1 : Int32) (1 : Int32)) = (0 : Int32) from by decide]
  refine WP.istore d8_23 (pc' := 25) rfl (ls' := #[.val (.ref q), .val (.long t), .second, .val (.int (0 : Int32)), .val (.int (1 : Int32)), .val (.int (0 : Int32))]) rfl ?_
  refine WP.aloadN d8_25 rfl rfl (pc' := 26) rfl ?_
  refine WP.getf (i := 0) (v := (.ref r)) d8_26 (w17 hw) O_q rfl rfl (pc' := 29) rfl ?_
  refine WP.iload d8_29 rfl (pc' := 31) rfl ?_
  refine WP.laload 0 d8_31 A_r (x := x0) rfl rfl (pc' := 32) rfl ?_
  refine WP.lloadN d8_32 rfl (pc' := 33) rfl ?_
  refine WP.lcmpGt d8_33 rfl d8_34 (tgt := 45) (by decide) (pc' := 37) rfl (fun c33 => ?_) (fun c33 => ?_)
  ·
    refine WP.iload d8_45 rfl (pc' := 47) rfl ?_
    refine WP.istore d8_47 (pc' := 49) rfl (ls' := #[.val (.ref q), .val (.long t), .second, .val (.int (0 : Int32)), .val (.int (0 : Int32)), .val (.int (0 : Int32))]) rfl ?_
    refine WP.goto d8_49 (pc' := 11) (by decide) ?_
    refine WP.iloadN d8_11 rfl (pc' := 12) rfl ?_
    refine WP.iload d8_12 rfl (pc' := 14) rfl ?_
    refine WP.icmpGe d8_14 (tgt := 52) (by decide) (pc' := 17) rfl (fun c14 => ?_) (fun c14 => ?_)
    ·
      refine WP.iloadN d8_52 rfl (pc' := 53) rfl ?_
      refine WP.iconst d8_53 (z := (1 : Int32)) rfl (pc' := 54) rfl ?_
      refine WP.isub d8_54 (pc' := 55) rfl ?_
      rw [show (((0 : Int32) - (1 : Int32)) : Int32) = (-1 : Int32) from by decide]
      refine WP.aloadN d8_55 rfl rfl (pc' := 56) rfl ?_
      refine WP.getf (i := 2) (v := (.int (0 : Int32))) d8_56 (w21 hw) O_q rfl rfl (pc' := 59) rfl ?_
      refine WP.isub d8_59 (pc' := 60) rfl ?_
      rw [show (((-1 : Int32) - (0 : Int32)) : Int32) = (-1 : Int32) from by decide]
      exact WP.retI d8_60 rfl (by decide) (by decide) ⟨rfl, _, rfl, by omega, by omega, by omega⟩
    exfalso; omega
  refine WP.iload d8_37 rfl (pc' := 39) rfl ?_
  refine WP.iconst d8_39 (z := (1 : Int32)) rfl (pc' := 40) rfl ?_
  refine WP.iadd d8_40 (pc' := 41) rfl ?_
  rw [show (((0 : Int32) + (1 : Int32)) : Int32) = (1 : Int32) from by decide]
  refine WP.istoreN d8_41 (pc' := 42) rfl (ls' := #[.val (.ref q), .val (.long t), .second, .val (.int (1 : Int32)), .val (.int (1 : Int32)), .val (.int (0 : Int32))]) rfl ?_
  refine WP.goto d8_42 (pc' := 49) (by decide) ?_
  refine WP.goto d8_49 (pc' := 11) (by decide) ?_
  refine WP.iloadN d8_11 rfl (pc' := 12) rfl ?_
  refine WP.iload d8_12 rfl (pc' := 14) rfl ?_
  refine WP.icmpGe d8_14 (tgt := 52) (by decide) (pc' := 17) rfl (fun c14 => ?_) (fun c14 => ?_)
  ·
    refine WP.iloadN d8_52 rfl (pc' := 53) rfl ?_
    refine WP.iconst d8_53 (z := (1 : Int32)) rfl (pc' := 54) rfl ?_
    refine WP.isub d8_54 (pc' := 55) rfl ?_
    rw [show (((1 : Int32) - (1 : Int32)) : Int32) = (0 : Int32) from by decide]
    refine WP.aloadN d8_55 rfl rfl (pc' := 56) rfl ?_
    refine WP.getf (i := 2) (v := (.int (0 : Int32))) d8_56 (w21 hw) O_q rfl rfl (pc' := 59) rfl ?_
    refine WP.isub d8_59 (pc' := 60) rfl ?_
    rw [show (((0 : Int32) - (0 : Int32)) : Int32) = (0 : Int32) from by decide]
    exact WP.retI d8_60 rfl (by decide) (by decide) ⟨rfl, _, rfl, by omega, by omega, by omega⟩
  exfalso; omega
theorem flo_1_1 {l : Launch} {Z : State} {a0 : Array Value} (hw : HW Z a0) {n0 : Nat} {h : Heap} (q r e : Addr) (t x0 x1 x2 x3 : Int64) (O_q : Ob Z h q "com/example/apportion/apportion/IdleGaps" L_IG [(.ref r), (.ref e), (.int (1 : Int32)), (.int (1 : Int32))]) (A_r : Av Z h r .long [(.long x0), (.long x1), (.long x2), (.long x3)]) (hs : True) : OMet l (⟨"com/example/apportion/apportion/IdleGaps", "floor", "(J)I"⟩ : MethodName) B8 Z n0 #[(.ref q), (.long t)] h (fun v h' => h = h' ∧ ∃ r : Int32, v = some (.int r) ∧ -1 ≤ r.toInt ∧ r.toInt < 0 ∧ True) := by
  refine OMet.of_wp (ls0 := #[.val (.ref q), .val (.long t), .second, .unset, .unset, .unset]) pl8 rfl rfl (fun m => own_entry 3 rfl rfl) ?_
  have k32_m1 : (-1 : Int32).toInt = -1 := by decide
  have k32_0 : (0 : Int32).toInt = 0 := by decide
  have k32_1 : (1 : Int32).toInt = 1 := by decide
  refine WP.aloadN d8_0 rfl rfl (pc' := 1) rfl ?_
  refine WP.getf (i := 2) (v := (.int (1 : Int32))) d8_1 (w21 hw) O_q rfl rfl (pc' := 4) rfl ?_
  refine WP.istoreN d8_4 (pc' := 5) rfl (ls' := #[.val (.ref q), .val (.long t), .second, .val (.int (1 : Int32)), .unset, .unset]) rfl ?_
  refine WP.aloadN d8_5 rfl rfl (pc' := 6) rfl ?_
  refine WP.getf (i := 3) (v := (.int (1 : Int32))) d8_6 (w23 hw) O_q rfl rfl (pc' := 9) rfl ?_
  refine WP.istore d8_9 (pc' := 11) rfl (ls' := #[.val (.ref q), .val (.long t), .second, .val (.int (1 : Int32)), .val (.int (1 : Int32)), .unset]) rfl ?_
  refine WP.iloadN d8_11 rfl (pc' := 12) rfl ?_
  refine WP.iload d8_12 rfl (pc' := 14) rfl ?_
  refine WP.icmpGe d8_14 (tgt := 52) (by decide) (pc' := 17) rfl (fun c14 => ?_) (fun c14 => ?_)
  ·
    refine WP.iloadN d8_52 rfl (pc' := 53) rfl ?_
    refine WP.iconst d8_53 (z := (1 : Int32)) rfl (pc' := 54) rfl ?_
    refine WP.isub d8_54 (pc' := 55) rfl ?_
    rw [show (((1 : Int32) - (1 : Int32)) : Int32) = (0 : Int32) from by decide]
    refine WP.aloadN d8_55 rfl rfl (pc' := 56) rfl ?_
    refine WP.getf (i := 2) (v := (.int (1 : Int32))) d8_56 (w21 hw) O_q rfl rfl (pc' := 59) rfl ?_
    refine WP.isub d8_59 (pc' := 60) rfl ?_
    rw [show (((0 : Int32) - (1 : Int32)) : Int32) = (-1 : Int32) from by decide]
    exact WP.retI d8_60 rfl (by decide) (by decide) ⟨rfl, _, rfl, by omega, by omega, trivial⟩
  exfalso; omega
theorem flo_0_2 {l : Launch} {Z : State} {a0 : Array Value} (hw : HW Z a0) {n0 : Nat} {h : Heap} (q r e : Addr) (t x0 x1 x2 x3 : Int64) (O_q : Ob Z h q "com/example/apportion/apportion/IdleGaps" L_IG [(.ref r), (.ref e), (.int (0 : Int32)), (.int (2 : Int32))]) (A_r : Av Z h r .long [(.long x0), (.long x1), (.long x2), (.long x3)]) (hs : x0.toInt < x1.toInt) : OMet l (⟨"com/example/apportion/apportion/IdleGaps", "floor", "(J)I"⟩ : MethodName) B8 Z n0 #[(.ref q), (.long t)] h (fun v h' => h = h' ∧ ∃ r : Int32, v = some (.int r) ∧ -1 ≤ r.toInt ∧ r.toInt < 2 ∧ ((x0.toInt ≤ t.toInt ∧ 0 ≤ r.toInt) ∨ (t.toInt < x0.toInt ∧ r.toInt < 0)) ∧ ((x1.toInt ≤ t.toInt ∧ 1 ≤ r.toInt) ∨ (t.toInt < x1.toInt ∧ r.toInt < 1))) := by
  refine OMet.of_wp (ls0 := #[.val (.ref q), .val (.long t), .second, .unset, .unset, .unset]) pl8 rfl rfl (fun m => own_entry 3 rfl rfl) ?_
  have k32_m1 : (-1 : Int32).toInt = -1 := by decide
  have k32_0 : (0 : Int32).toInt = 0 := by decide
  have k32_1 : (1 : Int32).toInt = 1 := by decide
  have k32_2 : (2 : Int32).toInt = 2 := by decide
  refine WP.aloadN d8_0 rfl rfl (pc' := 1) rfl ?_
  refine WP.getf (i := 2) (v := (.int (0 : Int32))) d8_1 (w21 hw) O_q rfl rfl (pc' := 4) rfl ?_
  refine WP.istoreN d8_4 (pc' := 5) rfl (ls' := #[.val (.ref q), .val (.long t), .second, .val (.int (0 : Int32)), .unset, .unset]) rfl ?_
  refine WP.aloadN d8_5 rfl rfl (pc' := 6) rfl ?_
  refine WP.getf (i := 3) (v := (.int (2 : Int32))) d8_6 (w23 hw) O_q rfl rfl (pc' := 9) rfl ?_
  refine WP.istore d8_9 (pc' := 11) rfl (ls' := #[.val (.ref q), .val (.long t), .second, .val (.int (0 : Int32)), .val (.int (2 : Int32)), .unset]) rfl ?_
  refine WP.iloadN d8_11 rfl (pc' := 12) rfl ?_
  refine WP.iload d8_12 rfl (pc' := 14) rfl ?_
  refine WP.icmpGe d8_14 (tgt := 52) (by decide) (pc' := 17) rfl (fun c14 => ?_) (fun c14 => ?_)
  · exfalso; omega
  refine WP.iloadN d8_17 rfl (pc' := 18) rfl ?_
  refine WP.iload d8_18 rfl (pc' := 20) rfl ?_
  refine WP.iadd d8_20 (pc' := 21) rfl ?_
  rw [show (((0 : Int32) + (2 : Int32)) : Int32) = (2 : Int32) from by decide]
  refine WP.iconst d8_21 (z := (1 : Int32)) rfl (pc' := 22) rfl ?_
  refine WP.iushr d8_22 (pc' := 23) rfl ?_
  rw [show (ushr (2 : Int32) (1 : Int32)) = (1 : Int32) from by decide]
  refine WP.istore d8_23 (pc' := 25) rfl (ls' := #[.val (.ref q), .val (.long t), .second, .val (.int (0 : Int32)), .val (.int (2 : Int32)), .val (.int (1 : Int32))]) rfl ?_
  refine WP.aloadN d8_25 rfl rfl (pc' := 26) rfl ?_
  refine WP.getf (i := 0) (v := (.ref r)) d8_26 (w17 hw) O_q rfl rfl (pc' := 29) rfl ?_
  refine WP.iload d8_29 rfl (pc' := 31) rfl ?_
  refine WP.laload 1 d8_31 A_r (x := x1) rfl rfl (pc' := 32) rfl ?_
  refine WP.lloadN d8_32 rfl (pc' := 33) rfl ?_
  refine WP.lcmpGt d8_33 rfl d8_34 (tgt := 45) (by decide) (pc' := 37) rfl (fun c33 => ?_) (fun c33 => ?_)
  ·
    refine WP.iload d8_45 rfl (pc' := 47) rfl ?_
    refine WP.istore d8_47 (pc' := 49) rfl (ls' := #[.val (.ref q), .val (.long t), .second, .val (.int (0 : Int32)), .val (.int (1 : Int32)), .val (.int (1 : Int32))]) rfl ?_
    refine WP.goto d8_49 (pc' := 11) (by decide) ?_
    refine WP.iloadN d8_11 rfl (pc' := 12) rfl ?_
    refine WP.iload d8_12 rfl (pc' := 14) rfl ?_
    refine WP.icmpGe d8_14 (tgt := 52) (by decide) (pc' := 17) rfl (fun c14 => ?_) (fun c14 => ?_)
    · exfalso; omega
    refine WP.iloadN d8_17 rfl (pc' := 18) rfl ?_
    refine WP.iload d8_18 rfl (pc' := 20) rfl ?_
    refine WP.iadd d8_20 (pc' := 21) rfl ?_
    rw [show (((0 : Int32) + (1 : Int32)) : Int32) = (1 : Int32) from by decide]
    refine WP.iconst d8_21 (z := (1 : Int32)) rfl (pc' := 22) rfl ?_
    refine WP.iushr d8_22 (pc' := 23) rfl ?_
    rw [show (ushr (1 : Int32) (1 : Int32)) = (0 : Int32) from by decide]
    refine WP.istore d8_23 (pc' := 25) rfl (ls' := #[.val (.ref q), .val (.long t), .second, .val (.int (0 : Int32)), .val (.int (1 : Int32)), .val (.int (0 : Int32))]) rfl ?_
    refine WP.aloadN d8_25 rfl rfl (pc' := 26) rfl ?_
    refine WP.getf (i := 0) (v := (.ref r)) d8_26 (w17 hw) O_q rfl rfl (pc' := 29) rfl ?_
    refine WP.iload d8_29 rfl (pc' := 31) rfl ?_
    refine WP.laload 0 d8_31 A_r (x := x0) rfl rfl (pc' := 32) rfl ?_
    refine WP.lloadN d8_32 rfl (pc' := 33) rfl ?_
    refine WP.lcmpGt d8_33 rfl d8_34 (tgt := 45) (by decide) (pc' := 37) rfl (fun c33 => ?_) (fun c33 => ?_)
    ·
      refine WP.iload d8_45 rfl (pc' := 47) rfl ?_
      refine WP.istore d8_47 (pc' := 49) rfl (ls' := #[.val (.ref q), .val (.long t), .second, .val (.int (0 : Int32)), .val (.int (0 : Int32)), .val (.int (0 : Int32))]) rfl ?_
      refine WP.goto d8_49 (pc' := 11) (by decide) ?_
      refine WP.iloadN d8_11 rfl (pc' := 12) rfl ?_
      refine WP.iload d8_12 rfl (pc' := 14) rfl ?_
      refine WP.icmpGe d8_14 (tgt := 52) (by decide) (pc' := 17) rfl (fun c14 => ?_) (fun c14 => ?_)
      ·
        refine WP.iloadN d8_52 rfl (pc' := 53) rfl ?_
        refine WP.iconst d8_53 (z := (1 : Int32)) rfl (pc' := 54) rfl ?_
        refine WP.isub d8_54 (pc' := 55) rfl ?_
        rw [show (((0 : Int32) - (1 : Int32)) : Int32) = (-1 : Int32) from by decide]
        refine WP.aloadN d8_55 rfl rfl (pc' := 56) rfl ?_
        refine WP.getf (i := 2) (v := (.int (0 : Int32))) d8_56 (w21 hw) O_q rfl rfl (pc' := 59) rfl ?_
        refine WP.isub d8_59 (pc' := 60) rfl ?_
        rw [show (((-1 : Int32) - (0 : Int32)) : Int32) = (-1 : Int32) from by decide]
        exact WP.retI d8_60 rfl (by decide) (by decide) ⟨rfl, _, rfl, by omega, by omega, by refine ⟨?_, ?_⟩ <;> omega⟩
      exfalso; omega
    refine WP.iload d8_37 rfl (pc' := 39) rfl ?_
    refine WP.iconst d8_39 (z := (1 : Int32)) rfl (pc' := 40) rfl ?_
    refine WP.iadd d8_40 (pc' := 41) rfl ?_
    rw [show (((0 : Int32) + (1 : Int32)) : Int32) = (1 : Int32) from by decide]
    refine WP.istoreN d8_41 (pc' := 42) rfl (ls' := #[.val (.ref q), .val (.long t), .second, .val (.int (1 : Int32)), .val (.int (1 : Int32)), .val (.int (0 : Int32))]) rfl ?_
    refine WP.goto d8_42 (pc' := 49) (by decide) ?_
    refine WP.goto d8_49 (pc' := 11) (by decide) ?_
    refine WP.iloadN d8_11 rfl (pc' := 12) rfl ?_
    refine WP.iload d8_12 rfl (pc' := 14) rfl ?_
    refine WP.icmpGe d8_14 (tgt := 52) (by decide) (pc' := 17) rfl (fun c14 => ?_) (fun c14 => ?_)
    ·
      refine WP.iloadN d8_52 rfl (pc' := 53) rfl ?_
      refine WP.iconst d8_53 (z := (1 : Int32)) rfl (pc' := 54) rfl ?_
      refine WP.isub d8_54 (pc' := 55) rfl ?_
      rw [show (((1 : Int32) - (1 : Int32)) : Int32) = (0 : Int32) from by decide]
      refine WP.aloadN d8_55 rfl rfl (pc' := 56) rfl ?_
      refine WP.getf (i := 2) (v := (.int (0 : Int32))) d8_56 (w21 hw) O_q rfl rfl (pc' := 59) rfl ?_
      refine WP.isub d8_59 (pc' := 60) rfl ?_
      rw [show (((0 : Int32) - (0 : Int32)) : Int32) = (0 : Int32) from by decide]
      exact WP.retI d8_60 rfl (by decide) (by decide) ⟨rfl, _, rfl, by omega, by omega, by refine ⟨?_, ?_⟩ <;> omega⟩
    exfalso; omega
  refine WP.iload d8_37 rfl (pc' := 39) rfl ?_
  refine WP.iconst d8_39 (z := (1 : Int32)) rfl (pc' := 40) rfl ?_
  refine WP.iadd d8_40 (pc' := 41) rfl ?_
  rw [show (((1 : Int32) + (1 : Int32)) : Int32) = (2 : Int32) from by decide]
  refine WP.istoreN d8_41 (pc' := 42) rfl (ls' := #[.val (.ref q), .val (.long t), .second, .val (.int (2 : Int32)), .val (.int (2 : Int32)), .val (.int (1 : Int32))]) rfl ?_
  refine WP.goto d8_42 (pc' := 49) (by decide) ?_
  refine WP.goto d8_49 (pc' := 11) (by decide) ?_
  refine WP.iloadN d8_11 rfl (pc' := 12) rfl ?_
  refine WP.iload d8_12 rfl (pc' := 14) rfl ?_
  refine WP.icmpGe d8_14 (tgt := 52) (by decide) (pc' := 17) rfl (fun c14 => ?_) (fun c14 => ?_)
  ·
    refine WP.iloadN d8_52 rfl (pc' := 53) rfl ?_
    refine WP.iconst d8_53 (z := (1 : Int32)) rfl (pc' := 54) rfl ?_
    refine WP.isub d8_54 (pc' := 55) rfl ?_
    rw [show (((2 : Int32) - (1 : Int32)) : Int32) = (1 : Int32) from by decide]
    refine WP.aloadN d8_55 rfl rfl (pc' := 56) rfl ?_
    refine WP.getf (i := 2) (v := (.int (0 : Int32))) d8_56 (w21 hw) O_q rfl rfl (pc' := 59) rfl ?_
    refine WP.isub d8_59 (pc' := 60) rfl ?_
    rw [show (((1 : Int32) - (0 : Int32)) : Int32) = (1 : Int32) from by decide]
    exact WP.retI d8_60 rfl (by decide) (by decide) ⟨rfl, _, rfl, by omega, by omega, by refine ⟨?_, ?_⟩ <;> omega⟩
  exfalso; omega
theorem flo_1_2 {l : Launch} {Z : State} {a0 : Array Value} (hw : HW Z a0) {n0 : Nat} {h : Heap} (q r e : Addr) (t x0 x1 x2 x3 : Int64) (O_q : Ob Z h q "com/example/apportion/apportion/IdleGaps" L_IG [(.ref r), (.ref e), (.int (1 : Int32)), (.int (2 : Int32))]) (A_r : Av Z h r .long [(.long x0), (.long x1), (.long x2), (.long x3)]) (hs : x0.toInt < x1.toInt) : OMet l (⟨"com/example/apportion/apportion/IdleGaps", "floor", "(J)I"⟩ : MethodName) B8 Z n0 #[(.ref q), (.long t)] h (fun v h' => h = h' ∧ ∃ r : Int32, v = some (.int r) ∧ -1 ≤ r.toInt ∧ r.toInt < 1 ∧ ((x1.toInt ≤ t.toInt ∧ 0 ≤ r.toInt) ∨ (t.toInt < x1.toInt ∧ r.toInt < 0))) := by
  refine OMet.of_wp (ls0 := #[.val (.ref q), .val (.long t), .second, .unset, .unset, .unset]) pl8 rfl rfl (fun m => own_entry 3 rfl rfl) ?_
  have k32_m1 : (-1 : Int32).toInt = -1 := by decide
  have k32_0 : (0 : Int32).toInt = 0 := by decide
  have k32_1 : (1 : Int32).toInt = 1 := by decide
  have k32_2 : (2 : Int32).toInt = 2 := by decide
  have k32_3 : (3 : Int32).toInt = 3 := by decide
  refine WP.aloadN d8_0 rfl rfl (pc' := 1) rfl ?_
  refine WP.getf (i := 2) (v := (.int (1 : Int32))) d8_1 (w21 hw) O_q rfl rfl (pc' := 4) rfl ?_
  refine WP.istoreN d8_4 (pc' := 5) rfl (ls' := #[.val (.ref q), .val (.long t), .second, .val (.int (1 : Int32)), .unset, .unset]) rfl ?_
  refine WP.aloadN d8_5 rfl rfl (pc' := 6) rfl ?_
  refine WP.getf (i := 3) (v := (.int (2 : Int32))) d8_6 (w23 hw) O_q rfl rfl (pc' := 9) rfl ?_
  refine WP.istore d8_9 (pc' := 11) rfl (ls' := #[.val (.ref q), .val (.long t), .second, .val (.int (1 : Int32)), .val (.int (2 : Int32)), .unset]) rfl ?_
  refine WP.iloadN d8_11 rfl (pc' := 12) rfl ?_
  refine WP.iload d8_12 rfl (pc' := 14) rfl ?_
  refine WP.icmpGe d8_14 (tgt := 52) (by decide) (pc' := 17) rfl (fun c14 => ?_) (fun c14 => ?_)
  · exfalso; omega
  refine WP.iloadN d8_17 rfl (pc' := 18) rfl ?_
  refine WP.iload d8_18 rfl (pc' := 20) rfl ?_
  refine WP.iadd d8_20 (pc' := 21) rfl ?_
  rw [show (((1 : Int32) + (2 : Int32)) : Int32) = (3 : Int32) from by decide]
  refine WP.iconst d8_21 (z := (1 : Int32)) rfl (pc' := 22) rfl ?_
  refine WP.iushr d8_22 (pc' := 23) rfl ?_
  rw [show (ushr (3 : Int32) (1 : Int32)) = (1 : Int32) from by decide]
  refine WP.istore d8_23 (pc' := 25) rfl (ls' := #[.val (.ref q), .val (.long t), .second, .val (.int (1 : Int32)), .val (.int (2 : Int32)), .val (.int (1 : Int32))]) rfl ?_
  refine WP.aloadN d8_25 rfl rfl (pc' := 26) rfl ?_
  refine WP.getf (i := 0) (v := (.ref r)) d8_26 (w17 hw) O_q rfl rfl (pc' := 29) rfl ?_
  refine WP.iload d8_29 rfl (pc' := 31) rfl ?_
  refine WP.laload 1 d8_31 A_r (x := x1) rfl rfl (pc' := 32) rfl ?_
  refine WP.lloadN d8_32 rfl (pc' := 33) rfl ?_
  refine WP.lcmpGt d8_33 rfl d8_34 (tgt := 45) (by decide) (pc' := 37) rfl (fun c33 => ?_) (fun c33 => ?_)
  ·
    refine WP.iload d8_45 rfl (pc' := 47) rfl ?_
    refine WP.istore d8_47 (pc' := 49) rfl (ls' := #[.val (.ref q), .val (.long t), .second, .val (.int (1 : Int32)), .val (.int (1 : Int32)), .val (.int (1 : Int32))]) rfl ?_
    refine WP.goto d8_49 (pc' := 11) (by decide) ?_
    refine WP.iloadN d8_11 rfl (pc' := 12) rfl ?_
    refine WP.iload d8_12 rfl (pc' := 14) rfl ?_
    refine WP.icmpGe d8_14 (tgt := 52) (by decide) (pc' := 17) rfl (fun c14 => ?_) (fun c14 => ?_)
    ·
      refine WP.iloadN d8_52 rfl (pc' := 53) rfl ?_
      refine WP.iconst d8_53 (z := (1 : Int32)) rfl (pc' := 54) rfl ?_
      refine WP.isub d8_54 (pc' := 55) rfl ?_
      rw [show (((1 : Int32) - (1 : Int32)) : Int32) = (0 : Int32) from by decide]
      refine WP.aloadN d8_55 rfl rfl (pc' := 56) rfl ?_
      refine WP.getf (i := 2) (v := (.int (1 : Int32))) d8_56 (w21 hw) O_q rfl rfl (pc' := 59) rfl ?_
      refine WP.isub d8_59 (pc' := 60) rfl ?_
      rw [show (((0 : Int32) - (1 : Int32)) : Int32) = (-1 : Int32) from by decide]
      exact WP.retI d8_60 rfl (by decide) (by decide) ⟨rfl, _, rfl, by omega, by omega, by omega⟩
    exfalso; omega
  refine WP.iload d8_37 rfl (pc' := 39) rfl ?_
  refine WP.iconst d8_39 (z := (1 : Int32)) rfl (pc' := 40) rfl ?_
  refine WP.iadd d8_40 (pc' := 41) rfl ?_
  rw [show (((1 : Int32) + (1 : Int32)) : Int32) = (2 : Int32) from by decide]
  refine WP.istoreN d8_41 (pc' := 42) rfl (ls' := #[.val (.ref q), .val (.long t), .second, .val (.int (2 : Int32)), .val (.int (2 : Int32)), .val (.int (1 : Int32))]) rfl ?_
  refine WP.goto d8_42 (pc' := 49) (by decide) ?_
  refine WP.goto d8_49 (pc' := 11) (by decide) ?_
  refine WP.iloadN d8_11 rfl (pc' := 12) rfl ?_
  refine WP.iload d8_12 rfl (pc' := 14) rfl ?_
  refine WP.icmpGe d8_14 (tgt := 52) (by decide) (pc' := 17) rfl (fun c14 => ?_) (fun c14 => ?_)
  ·
    refine WP.iloadN d8_52 rfl (pc' := 53) rfl ?_
    refine WP.iconst d8_53 (z := (1 : Int32)) rfl (pc' := 54) rfl ?_
    refine WP.isub d8_54 (pc' := 55) rfl ?_
    rw [show (((2 : Int32) - (1 : Int32)) : Int32) = (1 : Int32) from by decide]
    refine WP.aloadN d8_55 rfl rfl (pc' := 56) rfl ?_
    refine WP.getf (i := 2) (v := (.int (1 : Int32))) d8_56 (w21 hw) O_q rfl rfl (pc' := 59) rfl ?_
    refine WP.isub d8_59 (pc' := 60) rfl ?_
    rw [show (((1 : Int32) - (1 : Int32)) : Int32) = (0 : Int32) from by decide]
    exact WP.retI d8_60 rfl (by decide) (by decide) ⟨rfl, _, rfl, by omega, by omega, by omega⟩
  exfalso; omega
theorem flo_0_3 {l : Launch} {Z : State} {a0 : Array Value} (hw : HW Z a0) {n0 : Nat} {h : Heap} (q r e : Addr) (t x0 x1 x2 x3 : Int64) (O_q : Ob Z h q "com/example/apportion/apportion/IdleGaps" L_IG [(.ref r), (.ref e), (.int (0 : Int32)), (.int (3 : Int32))]) (A_r : Av Z h r .long [(.long x0), (.long x1), (.long x2), (.long x3)]) (hs : x0.toInt < x1.toInt ∧ x1.toInt < x2.toInt) : OMet l (⟨"com/example/apportion/apportion/IdleGaps", "floor", "(J)I"⟩ : MethodName) B8 Z n0 #[(.ref q), (.long t)] h (fun v h' => h = h' ∧ ∃ r : Int32, v = some (.int r) ∧ -1 ≤ r.toInt ∧ r.toInt < 3 ∧ ((x0.toInt ≤ t.toInt ∧ 0 ≤ r.toInt) ∨ (t.toInt < x0.toInt ∧ r.toInt < 0)) ∧ ((x1.toInt ≤ t.toInt ∧ 1 ≤ r.toInt) ∨ (t.toInt < x1.toInt ∧ r.toInt < 1)) ∧ ((x2.toInt ≤ t.toInt ∧ 2 ≤ r.toInt) ∨ (t.toInt < x2.toInt ∧ r.toInt < 2))) := by
  refine OMet.of_wp (ls0 := #[.val (.ref q), .val (.long t), .second, .unset, .unset, .unset]) pl8 rfl rfl (fun m => own_entry 3 rfl rfl) ?_
  have k32_m1 : (-1 : Int32).toInt = -1 := by decide
  have k32_0 : (0 : Int32).toInt = 0 := by decide
  have k32_1 : (1 : Int32).toInt = 1 := by decide
  have k32_2 : (2 : Int32).toInt = 2 := by decide
  have k32_3 : (3 : Int32).toInt = 3 := by decide
  have k32_5 : (5 : Int32).toInt = 5 := by decide
  refine WP.aloadN d8_0 rfl rfl (pc' := 1) rfl ?_
  refine WP.getf (i := 2) (v := (.int (0 : Int32))) d8_1 (w21 hw) O_q rfl rfl (pc' := 4) rfl ?_
  refine WP.istoreN d8_4 (pc' := 5) rfl (ls' := #[.val (.ref q), .val (.long t), .second, .val (.int (0 : Int32)), .unset, .unset]) rfl ?_
  refine WP.aloadN d8_5 rfl rfl (pc' := 6) rfl ?_
  refine WP.getf (i := 3) (v := (.int (3 : Int32))) d8_6 (w23 hw) O_q rfl rfl (pc' := 9) rfl ?_
  refine WP.istore d8_9 (pc' := 11) rfl (ls' := #[.val (.ref q), .val (.long t), .second, .val (.int (0 : Int32)), .val (.int (3 : Int32)), .unset]) rfl ?_
  refine WP.iloadN d8_11 rfl (pc' := 12) rfl ?_
  refine WP.iload d8_12 rfl (pc' := 14) rfl ?_
  refine WP.icmpGe d8_14 (tgt := 52) (by decide) (pc' := 17) rfl (fun c14 => ?_) (fun c14 => ?_)
  · exfalso; omega
  refine WP.iloadN d8_17 rfl (pc' := 18) rfl ?_
  refine WP.iload d8_18 rfl (pc' := 20) rfl ?_
  refine WP.iadd d8_20 (pc' := 21) rfl ?_
  rw [show (((0 : Int32) + (3 : Int32)) : Int32) = (3 : Int32) from by decide]
  refine WP.iconst d8_21 (z := (1 : Int32)) rfl (pc' := 22) rfl ?_
  refine WP.iushr d8_22 (pc' := 23) rfl ?_
  rw [show (ushr (3 : Int32) (1 : Int32)) = (1 : Int32) from by decide]
  refine WP.istore d8_23 (pc' := 25) rfl (ls' := #[.val (.ref q), .val (.long t), .second, .val (.int (0 : Int32)), .val (.int (3 : Int32)), .val (.int (1 : Int32))]) rfl ?_
  refine WP.aloadN d8_25 rfl rfl (pc' := 26) rfl ?_
  refine WP.getf (i := 0) (v := (.ref r)) d8_26 (w17 hw) O_q rfl rfl (pc' := 29) rfl ?_
  refine WP.iload d8_29 rfl (pc' := 31) rfl ?_
  refine WP.laload 1 d8_31 A_r (x := x1) rfl rfl (pc' := 32) rfl ?_
  refine WP.lloadN d8_32 rfl (pc' := 33) rfl ?_
  refine WP.lcmpGt d8_33 rfl d8_34 (tgt := 45) (by decide) (pc' := 37) rfl (fun c33 => ?_) (fun c33 => ?_)
  ·
    refine WP.iload d8_45 rfl (pc' := 47) rfl ?_
    refine WP.istore d8_47 (pc' := 49) rfl (ls' := #[.val (.ref q), .val (.long t), .second, .val (.int (0 : Int32)), .val (.int (1 : Int32)), .val (.int (1 : Int32))]) rfl ?_
    refine WP.goto d8_49 (pc' := 11) (by decide) ?_
    refine WP.iloadN d8_11 rfl (pc' := 12) rfl ?_
    refine WP.iload d8_12 rfl (pc' := 14) rfl ?_
    refine WP.icmpGe d8_14 (tgt := 52) (by decide) (pc' := 17) rfl (fun c14 => ?_) (fun c14 => ?_)
    · exfalso; omega
    refine WP.iloadN d8_17 rfl (pc' := 18) rfl ?_
    refine WP.iload d8_18 rfl (pc' := 20) rfl ?_
    refine WP.iadd d8_20 (pc' := 21) rfl ?_
    rw [show (((0 : Int32) + (1 : Int32)) : Int32) = (1 : Int32) from by decide]
    refine WP.iconst d8_21 (z := (1 : Int32)) rfl (pc' := 22) rfl ?_
    refine WP.iushr d8_22 (pc' := 23) rfl ?_
    rw [show (ushr (1 : Int32) (1 : Int32)) = (0 : Int32) from by decide]
    refine WP.istore d8_23 (pc' := 25) rfl (ls' := #[.val (.ref q), .val (.long t), .second, .val (.int (0 : Int32)), .val (.int (1 : Int32)), .val (.int (0 : Int32))]) rfl ?_
    refine WP.aloadN d8_25 rfl rfl (pc' := 26) rfl ?_
    refine WP.getf (i := 0) (v := (.ref r)) d8_26 (w17 hw) O_q rfl rfl (pc' := 29) rfl ?_
    refine WP.iload d8_29 rfl (pc' := 31) rfl ?_
    refine WP.laload 0 d8_31 A_r (x := x0) rfl rfl (pc' := 32) rfl ?_
    refine WP.lloadN d8_32 rfl (pc' := 33) rfl ?_
    refine WP.lcmpGt d8_33 rfl d8_34 (tgt := 45) (by decide) (pc' := 37) rfl (fun c33 => ?_) (fun c33 => ?_)
    ·
      refine WP.iload d8_45 rfl (pc' := 47) rfl ?_
      refine WP.istore d8_47 (pc' := 49) rfl (ls' := #[.val (.ref q), .val (.long t), .second, .val (.int (0 : Int32)), .val (.int (0 : Int32)), .val (.int (0 : Int32))]) rfl ?_
      refine WP.goto d8_49 (pc' := 11) (by decide) ?_
      refine WP.iloadN d8_11 rfl (pc' := 12) rfl ?_
      refine WP.iload d8_12 rfl (pc' := 14) rfl ?_
      refine WP.icmpGe d8_14 (tgt := 52) (by decide) (pc' := 17) rfl (fun c14 => ?_) (fun c14 => ?_)
      ·
        refine WP.iloadN d8_52 rfl (pc' := 53) rfl ?_
        refine WP.iconst d8_53 (z := (1 : Int32)) rfl (pc' := 54) rfl ?_
        refine WP.isub d8_54 (pc' := 55) rfl ?_
        rw [show (((0 : Int32) - (1 : Int32)) : Int32) = (-1 : Int32) from by decide]
        refine WP.aloadN d8_55 rfl rfl (pc' := 56) rfl ?_
        refine WP.getf (i := 2) (v := (.int (0 : Int32))) d8_56 (w21 hw) O_q rfl rfl (pc' := 59) rfl ?_
        refine WP.isub d8_59 (pc' := 60) rfl ?_
        rw [show (((-1 : Int32) - (0 : Int32)) : Int32) = (-1 : Int32) from by decide]
        exact WP.retI d8_60 rfl (by decide) (by decide) ⟨rfl, _, rfl, by omega, by omega, by refine ⟨?_, ?_, ?_⟩ <;> omega⟩
      exfalso; omega
    refine WP.iload d8_37 rfl (pc' := 39) rfl ?_
    refine WP.iconst d8_39 (z := (1 : Int32)) rfl (pc' := 40) rfl ?_
    refine WP.iadd d8_40 (pc' := 41) rfl ?_
    rw [show (((0 : Int32) + (1 : Int32)) : Int32) = (1 : Int32) from by decide]
    refine WP.istoreN d8_41 (pc' := 42) rfl (ls' := #[.val (.ref q), .val (.long t), .second, .val (.int (1 : Int32)), .val (.int (1 : Int32)), .val (.int (0 : Int32))]) rfl ?_
    refine WP.goto d8_42 (pc' := 49) (by decide) ?_
    refine WP.goto d8_49 (pc' := 11) (by decide) ?_
    refine WP.iloadN d8_11 rfl (pc' := 12) rfl ?_
    refine WP.iload d8_12 rfl (pc' := 14) rfl ?_
    refine WP.icmpGe d8_14 (tgt := 52) (by decide) (pc' := 17) rfl (fun c14 => ?_) (fun c14 => ?_)
    ·
      refine WP.iloadN d8_52 rfl (pc' := 53) rfl ?_
      refine WP.iconst d8_53 (z := (1 : Int32)) rfl (pc' := 54) rfl ?_
      refine WP.isub d8_54 (pc' := 55) rfl ?_
      rw [show (((1 : Int32) - (1 : Int32)) : Int32) = (0 : Int32) from by decide]
      refine WP.aloadN d8_55 rfl rfl (pc' := 56) rfl ?_
      refine WP.getf (i := 2) (v := (.int (0 : Int32))) d8_56 (w21 hw) O_q rfl rfl (pc' := 59) rfl ?_
      refine WP.isub d8_59 (pc' := 60) rfl ?_
      rw [show (((0 : Int32) - (0 : Int32)) : Int32) = (0 : Int32) from by decide]
      exact WP.retI d8_60 rfl (by decide) (by decide) ⟨rfl, _, rfl, by omega, by omega, by refine ⟨?_, ?_, ?_⟩ <;> omega⟩
    exfalso; omega
  refine WP.iload d8_37 rfl (pc' := 39) rfl ?_
  refine WP.iconst d8_39 (z := (1 : Int32)) rfl (pc' := 40) rfl ?_
  refine WP.iadd d8_40 (pc' := 41) rfl ?_
  rw [show (((1 : Int32) + (1 : Int32)) : Int32) = (2 : Int32) from by decide]
  refine WP.istoreN d8_41 (pc' := 42) rfl (ls' := #[.val (.ref q), .val (.long t), .second, .val (.int (2 : Int32)), .val (.int (3 : Int32)), .val (.int (1 : Int32))]) rfl ?_
  refine WP.goto d8_42 (pc' := 49) (by decide) ?_
  refine WP.goto d8_49 (pc' := 11) (by decide) ?_
  refine WP.iloadN d8_11 rfl (pc' := 12) rfl ?_
  refine WP.iload d8_12 rfl (pc' := 14) rfl ?_
  refine WP.icmpGe d8_14 (tgt := 52) (by decide) (pc' := 17) rfl (fun c14 => ?_) (fun c14 => ?_)
  · exfalso; omega
  refine WP.iloadN d8_17 rfl (pc' := 18) rfl ?_
  refine WP.iload d8_18 rfl (pc' := 20) rfl ?_
  refine WP.iadd d8_20 (pc' := 21) rfl ?_
  rw [show (((2 : Int32) + (3 : Int32)) : Int32) = (5 : Int32) from by decide]
  refine WP.iconst d8_21 (z := (1 : Int32)) rfl (pc' := 22) rfl ?_
  refine WP.iushr d8_22 (pc' := 23) rfl ?_
  rw [show (ushr (5 : Int32) (1 : Int32)) = (2 : Int32) from by decide]
  refine WP.istore d8_23 (pc' := 25) rfl (ls' := #[.val (.ref q), .val (.long t), .second, .val (.int (2 : Int32)), .val (.int (3 : Int32)), .val (.int (2 : Int32))]) rfl ?_
  refine WP.aloadN d8_25 rfl rfl (pc' := 26) rfl ?_
  refine WP.getf (i := 0) (v := (.ref r)) d8_26 (w17 hw) O_q rfl rfl (pc' := 29) rfl ?_
  refine WP.iload d8_29 rfl (pc' := 31) rfl ?_
  refine WP.laload 2 d8_31 A_r (x := x2) rfl rfl (pc' := 32) rfl ?_
  refine WP.lloadN d8_32 rfl (pc' := 33) rfl ?_
  refine WP.lcmpGt d8_33 rfl d8_34 (tgt := 45) (by decide) (pc' := 37) rfl (fun c33 => ?_) (fun c33 => ?_)
  ·
    refine WP.iload d8_45 rfl (pc' := 47) rfl ?_
    refine WP.istore d8_47 (pc' := 49) rfl (ls' := #[.val (.ref q), .val (.long t), .second, .val (.int (2 : Int32)), .val (.int (2 : Int32)), .val (.int (2 : Int32))]) rfl ?_
    refine WP.goto d8_49 (pc' := 11) (by decide) ?_
    refine WP.iloadN d8_11 rfl (pc' := 12) rfl ?_
    refine WP.iload d8_12 rfl (pc' := 14) rfl ?_
    refine WP.icmpGe d8_14 (tgt := 52) (by decide) (pc' := 17) rfl (fun c14 => ?_) (fun c14 => ?_)
    ·
      refine WP.iloadN d8_52 rfl (pc' := 53) rfl ?_
      refine WP.iconst d8_53 (z := (1 : Int32)) rfl (pc' := 54) rfl ?_
      refine WP.isub d8_54 (pc' := 55) rfl ?_
      rw [show (((2 : Int32) - (1 : Int32)) : Int32) = (1 : Int32) from by decide]
      refine WP.aloadN d8_55 rfl rfl (pc' := 56) rfl ?_
      refine WP.getf (i := 2) (v := (.int (0 : Int32))) d8_56 (w21 hw) O_q rfl rfl (pc' := 59) rfl ?_
      refine WP.isub d8_59 (pc' := 60) rfl ?_
      rw [show (((1 : Int32) - (0 : Int32)) : Int32) = (1 : Int32) from by decide]
      exact WP.retI d8_60 rfl (by decide) (by decide) ⟨rfl, _, rfl, by omega, by omega, by refine ⟨?_, ?_, ?_⟩ <;> omega⟩
    exfalso; omega
  refine WP.iload d8_37 rfl (pc' := 39) rfl ?_
  refine WP.iconst d8_39 (z := (1 : Int32)) rfl (pc' := 40) rfl ?_
  refine WP.iadd d8_40 (pc' := 41) rfl ?_
  rw [show (((2 : Int32) + (1 : Int32)) : Int32) = (3 : Int32) from by decide]
  refine WP.istoreN d8_41 (pc' := 42) rfl (ls' := #[.val (.ref q), .val (.long t), .second, .val (.int (3 : Int32)), .val (.int (3 : Int32)), .val (.int (2 : Int32))]) rfl ?_
  refine WP.goto d8_42 (pc' := 49) (by decide) ?_
  refine WP.goto d8_49 (pc' := 11) (by decide) ?_
  refine WP.iloadN d8_11 rfl (pc' := 12) rfl ?_
  refine WP.iload d8_12 rfl (pc' := 14) rfl ?_
  refine WP.icmpGe d8_14 (tgt := 52) (by decide) (pc' := 17) rfl (fun c14 => ?_) (fun c14 => ?_)
  ·
    refine WP.iloadN d8_52 rfl (pc' := 53) rfl ?_
    refine WP.iconst d8_53 (z := (1 : Int32)) rfl (pc' := 54) rfl ?_
    refine WP.isub d8_54 (pc' := 55) rfl ?_
    rw [show (((3 : Int32) - (1 : Int32)) : Int32) = (2 : Int32) from by decide]
    refine WP.aloadN d8_55 rfl rfl (pc' := 56) rfl ?_
    refine WP.getf (i := 2) (v := (.int (0 : Int32))) d8_56 (w21 hw) O_q rfl rfl (pc' := 59) rfl ?_
    refine WP.isub d8_59 (pc' := 60) rfl ?_
    rw [show (((2 : Int32) - (0 : Int32)) : Int32) = (2 : Int32) from by decide]
    exact WP.retI d8_60 rfl (by decide) (by decide) ⟨rfl, _, rfl, by omega, by omega, by refine ⟨?_, ?_, ?_⟩ <;> omega⟩
  exfalso; omega
theorem flo_1_3 {l : Launch} {Z : State} {a0 : Array Value} (hw : HW Z a0) {n0 : Nat} {h : Heap} (q r e : Addr) (t x0 x1 x2 x3 : Int64) (O_q : Ob Z h q "com/example/apportion/apportion/IdleGaps" L_IG [(.ref r), (.ref e), (.int (1 : Int32)), (.int (3 : Int32))]) (A_r : Av Z h r .long [(.long x0), (.long x1), (.long x2), (.long x3)]) (hs : x0.toInt < x1.toInt ∧ x1.toInt < x2.toInt) : OMet l (⟨"com/example/apportion/apportion/IdleGaps", "floor", "(J)I"⟩ : MethodName) B8 Z n0 #[(.ref q), (.long t)] h (fun v h' => h = h' ∧ ∃ r : Int32, v = some (.int r) ∧ -1 ≤ r.toInt ∧ r.toInt < 2 ∧ ((x1.toInt ≤ t.toInt ∧ 0 ≤ r.toInt) ∨ (t.toInt < x1.toInt ∧ r.toInt < 0)) ∧ ((x2.toInt ≤ t.toInt ∧ 1 ≤ r.toInt) ∨ (t.toInt < x2.toInt ∧ r.toInt < 1))) := by
  refine OMet.of_wp (ls0 := #[.val (.ref q), .val (.long t), .second, .unset, .unset, .unset]) pl8 rfl rfl (fun m => own_entry 3 rfl rfl) ?_
  have k32_m1 : (-1 : Int32).toInt = -1 := by decide
  have k32_0 : (0 : Int32).toInt = 0 := by decide
  have k32_1 : (1 : Int32).toInt = 1 := by decide
  have k32_2 : (2 : Int32).toInt = 2 := by decide
  have k32_3 : (3 : Int32).toInt = 3 := by decide
  have k32_4 : (4 : Int32).toInt = 4 := by decide
  refine WP.aloadN d8_0 rfl rfl (pc' := 1) rfl ?_
  refine WP.getf (i := 2) (v := (.int (1 : Int32))) d8_1 (w21 hw) O_q rfl rfl (pc' := 4) rfl ?_
  refine WP.istoreN d8_4 (pc' := 5) rfl (ls' := #[.val (.ref q), .val (.long t), .second, .val (.int (1 : Int32)), .unset, .unset]) rfl ?_
  refine WP.aloadN d8_5 rfl rfl (pc' := 6) rfl ?_
  refine WP.getf (i := 3) (v := (.int (3 : Int32))) d8_6 (w23 hw) O_q rfl rfl (pc' := 9) rfl ?_
  refine WP.istore d8_9 (pc' := 11) rfl (ls' := #[.val (.ref q), .val (.long t), .second, .val (.int (1 : Int32)), .val (.int (3 : Int32)), .unset]) rfl ?_
  refine WP.iloadN d8_11 rfl (pc' := 12) rfl ?_
  refine WP.iload d8_12 rfl (pc' := 14) rfl ?_
  refine WP.icmpGe d8_14 (tgt := 52) (by decide) (pc' := 17) rfl (fun c14 => ?_) (fun c14 => ?_)
  · exfalso; omega
  refine WP.iloadN d8_17 rfl (pc' := 18) rfl ?_
  refine WP.iload d8_18 rfl (pc' := 20) rfl ?_
  refine WP.iadd d8_20 (pc' := 21) rfl ?_
  rw [show (((1 : Int32) + (3 : Int32)) : Int32) = (4 : Int32) from by decide]
  refine WP.iconst d8_21 (z := (1 : Int32)) rfl (pc' := 22) rfl ?_
  refine WP.iushr d8_22 (pc' := 23) rfl ?_
  rw [show (ushr (4 : Int32) (1 : Int32)) = (2 : Int32) from by decide]
  refine WP.istore d8_23 (pc' := 25) rfl (ls' := #[.val (.ref q), .val (.long t), .second, .val (.int (1 : Int32)), .val (.int (3 : Int32)), .val (.int (2 : Int32))]) rfl ?_
  refine WP.aloadN d8_25 rfl rfl (pc' := 26) rfl ?_
  refine WP.getf (i := 0) (v := (.ref r)) d8_26 (w17 hw) O_q rfl rfl (pc' := 29) rfl ?_
  refine WP.iload d8_29 rfl (pc' := 31) rfl ?_
  refine WP.laload 2 d8_31 A_r (x := x2) rfl rfl (pc' := 32) rfl ?_
  refine WP.lloadN d8_32 rfl (pc' := 33) rfl ?_
  refine WP.lcmpGt d8_33 rfl d8_34 (tgt := 45) (by decide) (pc' := 37) rfl (fun c33 => ?_) (fun c33 => ?_)
  ·
    refine WP.iload d8_45 rfl (pc' := 47) rfl ?_
    refine WP.istore d8_47 (pc' := 49) rfl (ls' := #[.val (.ref q), .val (.long t), .second, .val (.int (1 : Int32)), .val (.int (2 : Int32)), .val (.int (2 : Int32))]) rfl ?_
    refine WP.goto d8_49 (pc' := 11) (by decide) ?_
    refine WP.iloadN d8_11 rfl (pc' := 12) rfl ?_
    refine WP.iload d8_12 rfl (pc' := 14) rfl ?_
    refine WP.icmpGe d8_14 (tgt := 52) (by decide) (pc' := 17) rfl (fun c14 => ?_) (fun c14 => ?_)
    · exfalso; omega
    refine WP.iloadN d8_17 rfl (pc' := 18) rfl ?_
    refine WP.iload d8_18 rfl (pc' := 20) rfl ?_
    refine WP.iadd d8_20 (pc' := 21) rfl ?_
    rw [show (((1 : Int32) + (2 : Int32)) : Int32) = (3 : Int32) from by decide]
    refine WP.iconst d8_21 (z := (1 : Int32)) rfl (pc' := 22) rfl ?_
    refine WP.iushr d8_22 (pc' := 23) rfl ?_
    rw [show (ushr (3 : Int32) (1 : Int32)) = (1 : Int32) from by decide]
    refine WP.istore d8_23 (pc' := 25) rfl (ls' := #[.val (.ref q), .val (.long t), .second, .val (.int (1 : Int32)), .val (.int (2 : Int32)), .val (.int (1 : Int32))]) rfl ?_
    refine WP.aloadN d8_25 rfl rfl (pc' := 26) rfl ?_
    refine WP.getf (i := 0) (v := (.ref r)) d8_26 (w17 hw) O_q rfl rfl (pc' := 29) rfl ?_
    refine WP.iload d8_29 rfl (pc' := 31) rfl ?_
    refine WP.laload 1 d8_31 A_r (x := x1) rfl rfl (pc' := 32) rfl ?_
    refine WP.lloadN d8_32 rfl (pc' := 33) rfl ?_
    refine WP.lcmpGt d8_33 rfl d8_34 (tgt := 45) (by decide) (pc' := 37) rfl (fun c33 => ?_) (fun c33 => ?_)
    ·
      refine WP.iload d8_45 rfl (pc' := 47) rfl ?_
      refine WP.istore d8_47 (pc' := 49) rfl (ls' := #[.val (.ref q), .val (.long t), .second, .val (.int (1 : Int32)), .val (.int (1 : Int32)), .val (.int (1 : Int32))]) rfl ?_
      refine WP.goto d8_49 (pc' := 11) (by decide) ?_
      refine WP.iloadN d8_11 rfl (pc' := 12) rfl ?_
      refine WP.iload d8_12 rfl (pc' := 14) rfl ?_
      refine WP.icmpGe d8_14 (tgt := 52) (by decide) (pc' := 17) rfl (fun c14 => ?_) (fun c14 => ?_)
      ·
        refine WP.iloadN d8_52 rfl (pc' := 53) rfl ?_
        refine WP.iconst d8_53 (z := (1 : Int32)) rfl (pc' := 54) rfl ?_
        refine WP.isub d8_54 (pc' := 55) rfl ?_
        rw [show (((1 : Int32) - (1 : Int32)) : Int32) = (0 : Int32) from by decide]
        refine WP.aloadN d8_55 rfl rfl (pc' := 56) rfl ?_
        refine WP.getf (i := 2) (v := (.int (1 : Int32))) d8_56 (w21 hw) O_q rfl rfl (pc' := 59) rfl ?_
        refine WP.isub d8_59 (pc' := 60) rfl ?_
        rw [show (((0 : Int32) - (1 : Int32)) : Int32) = (-1 : Int32) from by decide]
        exact WP.retI d8_60 rfl (by decide) (by decide) ⟨rfl, _, rfl, by omega, by omega, by refine ⟨?_, ?_⟩ <;> omega⟩
      exfalso; omega
    refine WP.iload d8_37 rfl (pc' := 39) rfl ?_
    refine WP.iconst d8_39 (z := (1 : Int32)) rfl (pc' := 40) rfl ?_
    refine WP.iadd d8_40 (pc' := 41) rfl ?_
    rw [show (((1 : Int32) + (1 : Int32)) : Int32) = (2 : Int32) from by decide]
    refine WP.istoreN d8_41 (pc' := 42) rfl (ls' := #[.val (.ref q), .val (.long t), .second, .val (.int (2 : Int32)), .val (.int (2 : Int32)), .val (.int (1 : Int32))]) rfl ?_
    refine WP.goto d8_42 (pc' := 49) (by decide) ?_
    refine WP.goto d8_49 (pc' := 11) (by decide) ?_
    refine WP.iloadN d8_11 rfl (pc' := 12) rfl ?_
    refine WP.iload d8_12 rfl (pc' := 14) rfl ?_
    refine WP.icmpGe d8_14 (tgt := 52) (by decide) (pc' := 17) rfl (fun c14 => ?_) (fun c14 => ?_)
    ·
      refine WP.iloadN d8_52 rfl (pc' := 53) rfl ?_
      refine WP.iconst d8_53 (z := (1 : Int32)) rfl (pc' := 54) rfl ?_
      refine WP.isub d8_54 (pc' := 55) rfl ?_
      rw [show (((2 : Int32) - (1 : Int32)) : Int32) = (1 : Int32) from by decide]
      refine WP.aloadN d8_55 rfl rfl (pc' := 56) rfl ?_
      refine WP.getf (i := 2) (v := (.int (1 : Int32))) d8_56 (w21 hw) O_q rfl rfl (pc' := 59) rfl ?_
      refine WP.isub d8_59 (pc' := 60) rfl ?_
      rw [show (((1 : Int32) - (1 : Int32)) : Int32) = (0 : Int32) from by decide]
      exact WP.retI d8_60 rfl (by decide) (by decide) ⟨rfl, _, rfl, by omega, by omega, by refine ⟨?_, ?_⟩ <;> omega⟩
    exfalso; omega
  refine WP.iload d8_37 rfl (pc' := 39) rfl ?_
  refine WP.iconst d8_39 (z := (1 : Int32)) rfl (pc' := 40) rfl ?_
  refine WP.iadd d8_40 (pc' := 41) rfl ?_
  rw [show (((2 : Int32) + (1 : Int32)) : Int32) = (3 : Int32) from by decide]
  refine WP.istoreN d8_41 (pc' := 42) rfl (ls' := #[.val (.ref q), .val (.long t), .second, .val (.int (3 : Int32)), .val (.int (3 : Int32)), .val (.int (2 : Int32))]) rfl ?_
  refine WP.goto d8_42 (pc' := 49) (by decide) ?_
  refine WP.goto d8_49 (pc' := 11) (by decide) ?_
  refine WP.iloadN d8_11 rfl (pc' := 12) rfl ?_
  refine WP.iload d8_12 rfl (pc' := 14) rfl ?_
  refine WP.icmpGe d8_14 (tgt := 52) (by decide) (pc' := 17) rfl (fun c14 => ?_) (fun c14 => ?_)
  ·
    refine WP.iloadN d8_52 rfl (pc' := 53) rfl ?_
    refine WP.iconst d8_53 (z := (1 : Int32)) rfl (pc' := 54) rfl ?_
    refine WP.isub d8_54 (pc' := 55) rfl ?_
    rw [show (((3 : Int32) - (1 : Int32)) : Int32) = (2 : Int32) from by decide]
    refine WP.aloadN d8_55 rfl rfl (pc' := 56) rfl ?_
    refine WP.getf (i := 2) (v := (.int (1 : Int32))) d8_56 (w21 hw) O_q rfl rfl (pc' := 59) rfl ?_
    refine WP.isub d8_59 (pc' := 60) rfl ?_
    rw [show (((2 : Int32) - (1 : Int32)) : Int32) = (1 : Int32) from by decide]
    exact WP.retI d8_60 rfl (by decide) (by decide) ⟨rfl, _, rfl, by omega, by omega, by refine ⟨?_, ?_⟩ <;> omega⟩
  exfalso; omega
theorem flo_0_4 {l : Launch} {Z : State} {a0 : Array Value} (hw : HW Z a0) {n0 : Nat} {h : Heap} (q r e : Addr) (t x0 x1 x2 x3 : Int64) (O_q : Ob Z h q "com/example/apportion/apportion/IdleGaps" L_IG [(.ref r), (.ref e), (.int (0 : Int32)), (.int (4 : Int32))]) (A_r : Av Z h r .long [(.long x0), (.long x1), (.long x2), (.long x3)]) (hs : x0.toInt < x1.toInt ∧ x1.toInt < x2.toInt ∧ x2.toInt < x3.toInt) : OMet l (⟨"com/example/apportion/apportion/IdleGaps", "floor", "(J)I"⟩ : MethodName) B8 Z n0 #[(.ref q), (.long t)] h (fun v h' => h = h' ∧ ∃ r : Int32, v = some (.int r) ∧ -1 ≤ r.toInt ∧ r.toInt < 4 ∧ ((x0.toInt ≤ t.toInt ∧ 0 ≤ r.toInt) ∨ (t.toInt < x0.toInt ∧ r.toInt < 0)) ∧ ((x1.toInt ≤ t.toInt ∧ 1 ≤ r.toInt) ∨ (t.toInt < x1.toInt ∧ r.toInt < 1)) ∧ ((x2.toInt ≤ t.toInt ∧ 2 ≤ r.toInt) ∨ (t.toInt < x2.toInt ∧ r.toInt < 2)) ∧ ((x3.toInt ≤ t.toInt ∧ 3 ≤ r.toInt) ∨ (t.toInt < x3.toInt ∧ r.toInt < 3))) := by
  refine OMet.of_wp (ls0 := #[.val (.ref q), .val (.long t), .second, .unset, .unset, .unset]) pl8 rfl rfl (fun m => own_entry 3 rfl rfl) ?_
  have k32_m1 : (-1 : Int32).toInt = -1 := by decide
  have k32_0 : (0 : Int32).toInt = 0 := by decide
  have k32_1 : (1 : Int32).toInt = 1 := by decide
  have k32_2 : (2 : Int32).toInt = 2 := by decide
  have k32_3 : (3 : Int32).toInt = 3 := by decide
  have k32_4 : (4 : Int32).toInt = 4 := by decide
  have k32_7 : (7 : Int32).toInt = 7 := by decide
  refine WP.aloadN d8_0 rfl rfl (pc' := 1) rfl ?_
  refine WP.getf (i := 2) (v := (.int (0 : Int32))) d8_1 (w21 hw) O_q rfl rfl (pc' := 4) rfl ?_
  refine WP.istoreN d8_4 (pc' := 5) rfl (ls' := #[.val (.ref q), .val (.long t), .second, .val (.int (0 : Int32)), .unset, .unset]) rfl ?_
  refine WP.aloadN d8_5 rfl rfl (pc' := 6) rfl ?_
  refine WP.getf (i := 3) (v := (.int (4 : Int32))) d8_6 (w23 hw) O_q rfl rfl (pc' := 9) rfl ?_
  refine WP.istore d8_9 (pc' := 11) rfl (ls' := #[.val (.ref q), .val (.long t), .second, .val (.int (0 : Int32)), .val (.int (4 : Int32)), .unset]) rfl ?_
  refine WP.iloadN d8_11 rfl (pc' := 12) rfl ?_
  refine WP.iload d8_12 rfl (pc' := 14) rfl ?_
  refine WP.icmpGe d8_14 (tgt := 52) (by decide) (pc' := 17) rfl (fun c14 => ?_) (fun c14 => ?_)
  · exfalso; omega
  refine WP.iloadN d8_17 rfl (pc' := 18) rfl ?_
  refine WP.iload d8_18 rfl (pc' := 20) rfl ?_
  refine WP.iadd d8_20 (pc' := 21) rfl ?_
  rw [show (((0 : Int32) + (4 : Int32)) : Int32) = (4 : Int32) from by decide]
  refine WP.iconst d8_21 (z := (1 : Int32)) rfl (pc' := 22) rfl ?_
  refine WP.iushr d8_22 (pc' := 23) rfl ?_
  rw [show (ushr (4 : Int32) (1 : Int32)) = (2 : Int32) from by decide]
  refine WP.istore d8_23 (pc' := 25) rfl (ls' := #[.val (.ref q), .val (.long t), .second, .val (.int (0 : Int32)), .val (.int (4 : Int32)), .val (.int (2 : Int32))]) rfl ?_
  refine WP.aloadN d8_25 rfl rfl (pc' := 26) rfl ?_
  refine WP.getf (i := 0) (v := (.ref r)) d8_26 (w17 hw) O_q rfl rfl (pc' := 29) rfl ?_
  refine WP.iload d8_29 rfl (pc' := 31) rfl ?_
  refine WP.laload 2 d8_31 A_r (x := x2) rfl rfl (pc' := 32) rfl ?_
  refine WP.lloadN d8_32 rfl (pc' := 33) rfl ?_
  refine WP.lcmpGt d8_33 rfl d8_34 (tgt := 45) (by decide) (pc' := 37) rfl (fun c33 => ?_) (fun c33 => ?_)
  ·
    refine WP.iload d8_45 rfl (pc' := 47) rfl ?_
    refine WP.istore d8_47 (pc' := 49) rfl (ls' := #[.val (.ref q), .val (.long t), .second, .val (.int (0 : Int32)), .val (.int (2 : Int32)), .val (.int (2 : Int32))]) rfl ?_
    refine WP.goto d8_49 (pc' := 11) (by decide) ?_
    refine WP.iloadN d8_11 rfl (pc' := 12) rfl ?_
    refine WP.iload d8_12 rfl (pc' := 14) rfl ?_
    refine WP.icmpGe d8_14 (tgt := 52) (by decide) (pc' := 17) rfl (fun c14 => ?_) (fun c14 => ?_)
    · exfalso; omega
    refine WP.iloadN d8_17 rfl (pc' := 18) rfl ?_
    refine WP.iload d8_18 rfl (pc' := 20) rfl ?_
    refine WP.iadd d8_20 (pc' := 21) rfl ?_
    rw [show (((0 : Int32) + (2 : Int32)) : Int32) = (2 : Int32) from by decide]
    refine WP.iconst d8_21 (z := (1 : Int32)) rfl (pc' := 22) rfl ?_
    refine WP.iushr d8_22 (pc' := 23) rfl ?_
    rw [show (ushr (2 : Int32) (1 : Int32)) = (1 : Int32) from by decide]
    refine WP.istore d8_23 (pc' := 25) rfl (ls' := #[.val (.ref q), .val (.long t), .second, .val (.int (0 : Int32)), .val (.int (2 : Int32)), .val (.int (1 : Int32))]) rfl ?_
    refine WP.aloadN d8_25 rfl rfl (pc' := 26) rfl ?_
    refine WP.getf (i := 0) (v := (.ref r)) d8_26 (w17 hw) O_q rfl rfl (pc' := 29) rfl ?_
    refine WP.iload d8_29 rfl (pc' := 31) rfl ?_
    refine WP.laload 1 d8_31 A_r (x := x1) rfl rfl (pc' := 32) rfl ?_
    refine WP.lloadN d8_32 rfl (pc' := 33) rfl ?_
    refine WP.lcmpGt d8_33 rfl d8_34 (tgt := 45) (by decide) (pc' := 37) rfl (fun c33 => ?_) (fun c33 => ?_)
    ·
      refine WP.iload d8_45 rfl (pc' := 47) rfl ?_
      refine WP.istore d8_47 (pc' := 49) rfl (ls' := #[.val (.ref q), .val (.long t), .second, .val (.int (0 : Int32)), .val (.int (1 : Int32)), .val (.int (1 : Int32))]) rfl ?_
      refine WP.goto d8_49 (pc' := 11) (by decide) ?_
      refine WP.iloadN d8_11 rfl (pc' := 12) rfl ?_
      refine WP.iload d8_12 rfl (pc' := 14) rfl ?_
      refine WP.icmpGe d8_14 (tgt := 52) (by decide) (pc' := 17) rfl (fun c14 => ?_) (fun c14 => ?_)
      · exfalso; omega
      refine WP.iloadN d8_17 rfl (pc' := 18) rfl ?_
      refine WP.iload d8_18 rfl (pc' := 20) rfl ?_
      refine WP.iadd d8_20 (pc' := 21) rfl ?_
      rw [show (((0 : Int32) + (1 : Int32)) : Int32) = (1 : Int32) from by decide]
      refine WP.iconst d8_21 (z := (1 : Int32)) rfl (pc' := 22) rfl ?_
      refine WP.iushr d8_22 (pc' := 23) rfl ?_
      rw [show (ushr (1 : Int32) (1 : Int32)) = (0 : Int32) from by decide]
      refine WP.istore d8_23 (pc' := 25) rfl (ls' := #[.val (.ref q), .val (.long t), .second, .val (.int (0 : Int32)), .val (.int (1 : Int32)), .val (.int (0 : Int32))]) rfl ?_
      refine WP.aloadN d8_25 rfl rfl (pc' := 26) rfl ?_
      refine WP.getf (i := 0) (v := (.ref r)) d8_26 (w17 hw) O_q rfl rfl (pc' := 29) rfl ?_
      refine WP.iload d8_29 rfl (pc' := 31) rfl ?_
      refine WP.laload 0 d8_31 A_r (x := x0) rfl rfl (pc' := 32) rfl ?_
      refine WP.lloadN d8_32 rfl (pc' := 33) rfl ?_
      refine WP.lcmpGt d8_33 rfl d8_34 (tgt := 45) (by decide) (pc' := 37) rfl (fun c33 => ?_) (fun c33 => ?_)
      ·
        refine WP.iload d8_45 rfl (pc' := 47) rfl ?_
        refine WP.istore d8_47 (pc' := 49) rfl (ls' := #[.val (.ref q), .val (.long t), .second, .val (.int (0 : Int32)), .val (.int (0 : Int32)), .val (.int (0 : Int32))]) rfl ?_
        refine WP.goto d8_49 (pc' := 11) (by decide) ?_
        refine WP.iloadN d8_11 rfl (pc' := 12) rfl ?_
        refine WP.iload d8_12 rfl (pc' := 14) rfl ?_
        refine WP.icmpGe d8_14 (tgt := 52) (by decide) (pc' := 17) rfl (fun c14 => ?_) (fun c14 => ?_)
        ·
          refine WP.iloadN d8_52 rfl (pc' := 53) rfl ?_
          refine WP.iconst d8_53 (z := (1 : Int32)) rfl (pc' := 54) rfl ?_
          refine WP.isub d8_54 (pc' := 55) rfl ?_
          rw [show (((0 : Int32) - (1 : Int32)) : Int32) = (-1 : Int32) from by decide]
          refine WP.aloadN d8_55 rfl rfl (pc' := 56) rfl ?_
          refine WP.getf (i := 2) (v := (.int (0 : Int32))) d8_56 (w21 hw) O_q rfl rfl (pc' := 59) rfl ?_
          refine WP.isub d8_59 (pc' := 60) rfl ?_
          rw [show (((-1 : Int32) - (0 : Int32)) : Int32) = (-1 : Int32) from by decide]
          exact WP.retI d8_60 rfl (by decide) (by decide) ⟨rfl, _, rfl, by omega, by omega, by refine ⟨?_, ?_, ?_, ?_⟩ <;> omega⟩
        exfalso; omega
      refine WP.iload d8_37 rfl (pc' := 39) rfl ?_
      refine WP.iconst d8_39 (z := (1 : Int32)) rfl (pc' := 40) rfl ?_
      refine WP.iadd d8_40 (pc' := 41) rfl ?_
      rw [show (((0 : Int32) + (1 : Int32)) : Int32) = (1 : Int32) from by decide]
      refine WP.istoreN d8_41 (pc' := 42) rfl (ls' := #[.val (.ref q), .val (.long t), .second, .val (.int (1 : Int32)), .val (.int (1 : Int32)), .val (.int (0 : Int32))]) rfl ?_
      refine WP.goto d8_42 (pc' := 49) (by decide) ?_
      refine WP.goto d8_49 (pc' := 11) (by decide) ?_
      refine WP.iloadN d8_11 rfl (pc' := 12) rfl ?_
      refine WP.iload d8_12 rfl (pc' := 14) rfl ?_
      refine WP.icmpGe d8_14 (tgt := 52) (by decide) (pc' := 17) rfl (fun c14 => ?_) (fun c14 => ?_)
      ·
        refine WP.iloadN d8_52 rfl (pc' := 53) rfl ?_
        refine WP.iconst d8_53 (z := (1 : Int32)) rfl (pc' := 54) rfl ?_
        refine WP.isub d8_54 (pc' := 55) rfl ?_
        rw [show (((1 : Int32) - (1 : Int32)) : Int32) = (0 : Int32) from by decide]
        refine WP.aloadN d8_55 rfl rfl (pc' := 56) rfl ?_
        refine WP.getf (i := 2) (v := (.int (0 : Int32))) d8_56 (w21 hw) O_q rfl rfl (pc' := 59) rfl ?_
        refine WP.isub d8_59 (pc' := 60) rfl ?_
        rw [show (((0 : Int32) - (0 : Int32)) : Int32) = (0 : Int32) from by decide]
        exact WP.retI d8_60 rfl (by decide) (by decide) ⟨rfl, _, rfl, by omega, by omega, by refine ⟨?_, ?_, ?_, ?_⟩ <;> omega⟩
      exfalso; omega
    refine WP.iload d8_37 rfl (pc' := 39) rfl ?_
    refine WP.iconst d8_39 (z := (1 : Int32)) rfl (pc' := 40) rfl ?_
    refine WP.iadd d8_40 (pc' := 41) rfl ?_
    rw [show (((1 : Int32) + (1 : Int32)) : Int32) = (2 : Int32) from by decide]
    refine WP.istoreN d8_41 (pc' := 42) rfl (ls' := #[.val (.ref q), .val (.long t), .second, .val (.int (2 : Int32)), .val (.int (2 : Int32)), .val (.int (1 : Int32))]) rfl ?_
    refine WP.goto d8_42 (pc' := 49) (by decide) ?_
    refine WP.goto d8_49 (pc' := 11) (by decide) ?_
    refine WP.iloadN d8_11 rfl (pc' := 12) rfl ?_
    refine WP.iload d8_12 rfl (pc' := 14) rfl ?_
    refine WP.icmpGe d8_14 (tgt := 52) (by decide) (pc' := 17) rfl (fun c14 => ?_) (fun c14 => ?_)
    ·
      refine WP.iloadN d8_52 rfl (pc' := 53) rfl ?_
      refine WP.iconst d8_53 (z := (1 : Int32)) rfl (pc' := 54) rfl ?_
      refine WP.isub d8_54 (pc' := 55) rfl ?_
      rw [show (((2 : Int32) - (1 : Int32)) : Int32) = (1 : Int32) from by decide]
      refine WP.aloadN d8_55 rfl rfl (pc' := 56) rfl ?_
      refine WP.getf (i := 2) (v := (.int (0 : Int32))) d8_56 (w21 hw) O_q rfl rfl (pc' := 59) rfl ?_
      refine WP.isub d8_59 (pc' := 60) rfl ?_
      rw [show (((1 : Int32) - (0 : Int32)) : Int32) = (1 : Int32) from by decide]
      exact WP.retI d8_60 rfl (by decide) (by decide) ⟨rfl, _, rfl, by omega, by omega, by refine ⟨?_, ?_, ?_, ?_⟩ <;> omega⟩
    exfalso; omega
  refine WP.iload d8_37 rfl (pc' := 39) rfl ?_
  refine WP.iconst d8_39 (z := (1 : Int32)) rfl (pc' := 40) rfl ?_
  refine WP.iadd d8_40 (pc' := 41) rfl ?_
  rw [show (((2 : Int32) + (1 : Int32)) : Int32) = (3 : Int32) from by decide]
  refine WP.istoreN d8_41 (pc' := 42) rfl (ls' := #[.val (.ref q), .val (.long t), .second, .val (.int (3 : Int32)), .val (.int (4 : Int32)), .val (.int (2 : Int32))]) rfl ?_
  refine WP.goto d8_42 (pc' := 49) (by decide) ?_
  refine WP.goto d8_49 (pc' := 11) (by decide) ?_
  refine WP.iloadN d8_11 rfl (pc' := 12) rfl ?_
  refine WP.iload d8_12 rfl (pc' := 14) rfl ?_
  refine WP.icmpGe d8_14 (tgt := 52) (by decide) (pc' := 17) rfl (fun c14 => ?_) (fun c14 => ?_)
  · exfalso; omega
  refine WP.iloadN d8_17 rfl (pc' := 18) rfl ?_
  refine WP.iload d8_18 rfl (pc' := 20) rfl ?_
  refine WP.iadd d8_20 (pc' := 21) rfl ?_
  rw [show (((3 : Int32) + (4 : Int32)) : Int32) = (7 : Int32) from by decide]
  refine WP.iconst d8_21 (z := (1 : Int32)) rfl (pc' := 22) rfl ?_
  refine WP.iushr d8_22 (pc' := 23) rfl ?_
  rw [show (ushr (7 : Int32) (1 : Int32)) = (3 : Int32) from by decide]
  refine WP.istore d8_23 (pc' := 25) rfl (ls' := #[.val (.ref q), .val (.long t), .second, .val (.int (3 : Int32)), .val (.int (4 : Int32)), .val (.int (3 : Int32))]) rfl ?_
  refine WP.aloadN d8_25 rfl rfl (pc' := 26) rfl ?_
  refine WP.getf (i := 0) (v := (.ref r)) d8_26 (w17 hw) O_q rfl rfl (pc' := 29) rfl ?_
  refine WP.iload d8_29 rfl (pc' := 31) rfl ?_
  refine WP.laload 3 d8_31 A_r (x := x3) rfl rfl (pc' := 32) rfl ?_
  refine WP.lloadN d8_32 rfl (pc' := 33) rfl ?_
  refine WP.lcmpGt d8_33 rfl d8_34 (tgt := 45) (by decide) (pc' := 37) rfl (fun c33 => ?_) (fun c33 => ?_)
  ·
    refine WP.iload d8_45 rfl (pc' := 47) rfl ?_
    refine WP.istore d8_47 (pc' := 49) rfl (ls' := #[.val (.ref q), .val (.long t), .second, .val (.int (3 : Int32)), .val (.int (3 : Int32)), .val (.int (3 : Int32))]) rfl ?_
    refine WP.goto d8_49 (pc' := 11) (by decide) ?_
    refine WP.iloadN d8_11 rfl (pc' := 12) rfl ?_
    refine WP.iload d8_12 rfl (pc' := 14) rfl ?_
    refine WP.icmpGe d8_14 (tgt := 52) (by decide) (pc' := 17) rfl (fun c14 => ?_) (fun c14 => ?_)
    ·
      refine WP.iloadN d8_52 rfl (pc' := 53) rfl ?_
      refine WP.iconst d8_53 (z := (1 : Int32)) rfl (pc' := 54) rfl ?_
      refine WP.isub d8_54 (pc' := 55) rfl ?_
      rw [show (((3 : Int32) - (1 : Int32)) : Int32) = (2 : Int32) from by decide]
      refine WP.aloadN d8_55 rfl rfl (pc' := 56) rfl ?_
      refine WP.getf (i := 2) (v := (.int (0 : Int32))) d8_56 (w21 hw) O_q rfl rfl (pc' := 59) rfl ?_
      refine WP.isub d8_59 (pc' := 60) rfl ?_
      rw [show (((2 : Int32) - (0 : Int32)) : Int32) = (2 : Int32) from by decide]
      exact WP.retI d8_60 rfl (by decide) (by decide) ⟨rfl, _, rfl, by omega, by omega, by refine ⟨?_, ?_, ?_, ?_⟩ <;> omega⟩
    exfalso; omega
  refine WP.iload d8_37 rfl (pc' := 39) rfl ?_
  refine WP.iconst d8_39 (z := (1 : Int32)) rfl (pc' := 40) rfl ?_
  refine WP.iadd d8_40 (pc' := 41) rfl ?_
  rw [show (((3 : Int32) + (1 : Int32)) : Int32) = (4 : Int32) from by decide]
  refine WP.istoreN d8_41 (pc' := 42) rfl (ls' := #[.val (.ref q), .val (.long t), .second, .val (.int (4 : Int32)), .val (.int (4 : Int32)), .val (.int (3 : Int32))]) rfl ?_
  refine WP.goto d8_42 (pc' := 49) (by decide) ?_
  refine WP.goto d8_49 (pc' := 11) (by decide) ?_
  refine WP.iloadN d8_11 rfl (pc' := 12) rfl ?_
  refine WP.iload d8_12 rfl (pc' := 14) rfl ?_
  refine WP.icmpGe d8_14 (tgt := 52) (by decide) (pc' := 17) rfl (fun c14 => ?_) (fun c14 => ?_)
  ·
    refine WP.iloadN d8_52 rfl (pc' := 53) rfl ?_
    refine WP.iconst d8_53 (z := (1 : Int32)) rfl (pc' := 54) rfl ?_
    refine WP.isub d8_54 (pc' := 55) rfl ?_
    rw [show (((4 : Int32) - (1 : Int32)) : Int32) = (3 : Int32) from by decide]
    refine WP.aloadN d8_55 rfl rfl (pc' := 56) rfl ?_
    refine WP.getf (i := 2) (v := (.int (0 : Int32))) d8_56 (w21 hw) O_q rfl rfl (pc' := 59) rfl ?_
    refine WP.isub d8_59 (pc' := 60) rfl ?_
    rw [show (((3 : Int32) - (0 : Int32)) : Int32) = (3 : Int32) from by decide]
    exact WP.retI d8_60 rfl (by decide) (by decide) ⟨rfl, _, rfl, by omega, by omega, by refine ⟨?_, ?_, ?_, ?_⟩ <;> omega⟩
  exfalso; omega
theorem flo_1_4 {l : Launch} {Z : State} {a0 : Array Value} (hw : HW Z a0) {n0 : Nat} {h : Heap} (q r e : Addr) (t x0 x1 x2 x3 : Int64) (O_q : Ob Z h q "com/example/apportion/apportion/IdleGaps" L_IG [(.ref r), (.ref e), (.int (1 : Int32)), (.int (4 : Int32))]) (A_r : Av Z h r .long [(.long x0), (.long x1), (.long x2), (.long x3)]) (hs : x0.toInt < x1.toInt ∧ x1.toInt < x2.toInt ∧ x2.toInt < x3.toInt) : OMet l (⟨"com/example/apportion/apportion/IdleGaps", "floor", "(J)I"⟩ : MethodName) B8 Z n0 #[(.ref q), (.long t)] h (fun v h' => h = h' ∧ ∃ r : Int32, v = some (.int r) ∧ -1 ≤ r.toInt ∧ r.toInt < 3 ∧ ((x1.toInt ≤ t.toInt ∧ 0 ≤ r.toInt) ∨ (t.toInt < x1.toInt ∧ r.toInt < 0)) ∧ ((x2.toInt ≤ t.toInt ∧ 1 ≤ r.toInt) ∨ (t.toInt < x2.toInt ∧ r.toInt < 1)) ∧ ((x3.toInt ≤ t.toInt ∧ 2 ≤ r.toInt) ∨ (t.toInt < x3.toInt ∧ r.toInt < 2))) := by
  refine OMet.of_wp (ls0 := #[.val (.ref q), .val (.long t), .second, .unset, .unset, .unset]) pl8 rfl rfl (fun m => own_entry 3 rfl rfl) ?_
  have k32_m1 : (-1 : Int32).toInt = -1 := by decide
  have k32_0 : (0 : Int32).toInt = 0 := by decide
  have k32_1 : (1 : Int32).toInt = 1 := by decide
  have k32_2 : (2 : Int32).toInt = 2 := by decide
  have k32_3 : (3 : Int32).toInt = 3 := by decide
  have k32_4 : (4 : Int32).toInt = 4 := by decide
  have k32_5 : (5 : Int32).toInt = 5 := by decide
  have k32_7 : (7 : Int32).toInt = 7 := by decide
  refine WP.aloadN d8_0 rfl rfl (pc' := 1) rfl ?_
  refine WP.getf (i := 2) (v := (.int (1 : Int32))) d8_1 (w21 hw) O_q rfl rfl (pc' := 4) rfl ?_
  refine WP.istoreN d8_4 (pc' := 5) rfl (ls' := #[.val (.ref q), .val (.long t), .second, .val (.int (1 : Int32)), .unset, .unset]) rfl ?_
  refine WP.aloadN d8_5 rfl rfl (pc' := 6) rfl ?_
  refine WP.getf (i := 3) (v := (.int (4 : Int32))) d8_6 (w23 hw) O_q rfl rfl (pc' := 9) rfl ?_
  refine WP.istore d8_9 (pc' := 11) rfl (ls' := #[.val (.ref q), .val (.long t), .second, .val (.int (1 : Int32)), .val (.int (4 : Int32)), .unset]) rfl ?_
  refine WP.iloadN d8_11 rfl (pc' := 12) rfl ?_
  refine WP.iload d8_12 rfl (pc' := 14) rfl ?_
  refine WP.icmpGe d8_14 (tgt := 52) (by decide) (pc' := 17) rfl (fun c14 => ?_) (fun c14 => ?_)
  · exfalso; omega
  refine WP.iloadN d8_17 rfl (pc' := 18) rfl ?_
  refine WP.iload d8_18 rfl (pc' := 20) rfl ?_
  refine WP.iadd d8_20 (pc' := 21) rfl ?_
  rw [show (((1 : Int32) + (4 : Int32)) : Int32) = (5 : Int32) from by decide]
  refine WP.iconst d8_21 (z := (1 : Int32)) rfl (pc' := 22) rfl ?_
  refine WP.iushr d8_22 (pc' := 23) rfl ?_
  rw [show (ushr (5 : Int32) (1 : Int32)) = (2 : Int32) from by decide]
  refine WP.istore d8_23 (pc' := 25) rfl (ls' := #[.val (.ref q), .val (.long t), .second, .val (.int (1 : Int32)), .val (.int (4 : Int32)), .val (.int (2 : Int32))]) rfl ?_
  refine WP.aloadN d8_25 rfl rfl (pc' := 26) rfl ?_
  refine WP.getf (i := 0) (v := (.ref r)) d8_26 (w17 hw) O_q rfl rfl (pc' := 29) rfl ?_
  refine WP.iload d8_29 rfl (pc' := 31) rfl ?_
  refine WP.laload 2 d8_31 A_r (x := x2) rfl rfl (pc' := 32) rfl ?_
  refine WP.lloadN d8_32 rfl (pc' := 33) rfl ?_
  refine WP.lcmpGt d8_33 rfl d8_34 (tgt := 45) (by decide) (pc' := 37) rfl (fun c33 => ?_) (fun c33 => ?_)
  ·
    refine WP.iload d8_45 rfl (pc' := 47) rfl ?_
    refine WP.istore d8_47 (pc' := 49) rfl (ls' := #[.val (.ref q), .val (.long t), .second, .val (.int (1 : Int32)), .val (.int (2 : Int32)), .val (.int (2 : Int32))]) rfl ?_
    refine WP.goto d8_49 (pc' := 11) (by decide) ?_
    refine WP.iloadN d8_11 rfl (pc' := 12) rfl ?_
    refine WP.iload d8_12 rfl (pc' := 14) rfl ?_
    refine WP.icmpGe d8_14 (tgt := 52) (by decide) (pc' := 17) rfl (fun c14 => ?_) (fun c14 => ?_)
    · exfalso; omega
    refine WP.iloadN d8_17 rfl (pc' := 18) rfl ?_
    refine WP.iload d8_18 rfl (pc' := 20) rfl ?_
    refine WP.iadd d8_20 (pc' := 21) rfl ?_
    rw [show (((1 : Int32) + (2 : Int32)) : Int32) = (3 : Int32) from by decide]
    refine WP.iconst d8_21 (z := (1 : Int32)) rfl (pc' := 22) rfl ?_
    refine WP.iushr d8_22 (pc' := 23) rfl ?_
    rw [show (ushr (3 : Int32) (1 : Int32)) = (1 : Int32) from by decide]
    refine WP.istore d8_23 (pc' := 25) rfl (ls' := #[.val (.ref q), .val (.long t), .second, .val (.int (1 : Int32)), .val (.int (2 : Int32)), .val (.int (1 : Int32))]) rfl ?_
    refine WP.aloadN d8_25 rfl rfl (pc' := 26) rfl ?_
    refine WP.getf (i := 0) (v := (.ref r)) d8_26 (w17 hw) O_q rfl rfl (pc' := 29) rfl ?_
    refine WP.iload d8_29 rfl (pc' := 31) rfl ?_
    refine WP.laload 1 d8_31 A_r (x := x1) rfl rfl (pc' := 32) rfl ?_
    refine WP.lloadN d8_32 rfl (pc' := 33) rfl ?_
    refine WP.lcmpGt d8_33 rfl d8_34 (tgt := 45) (by decide) (pc' := 37) rfl (fun c33 => ?_) (fun c33 => ?_)
    ·
      refine WP.iload d8_45 rfl (pc' := 47) rfl ?_
      refine WP.istore d8_47 (pc' := 49) rfl (ls' := #[.val (.ref q), .val (.long t), .second, .val (.int (1 : Int32)), .val (.int (1 : Int32)), .val (.int (1 : Int32))]) rfl ?_
      refine WP.goto d8_49 (pc' := 11) (by decide) ?_
      refine WP.iloadN d8_11 rfl (pc' := 12) rfl ?_
      refine WP.iload d8_12 rfl (pc' := 14) rfl ?_
      refine WP.icmpGe d8_14 (tgt := 52) (by decide) (pc' := 17) rfl (fun c14 => ?_) (fun c14 => ?_)
      ·
        refine WP.iloadN d8_52 rfl (pc' := 53) rfl ?_
        refine WP.iconst d8_53 (z := (1 : Int32)) rfl (pc' := 54) rfl ?_
        refine WP.isub d8_54 (pc' := 55) rfl ?_
        rw [show (((1 : Int32) - (1 : Int32)) : Int32) = (0 : Int32) from by decide]
        refine WP.aloadN d8_55 rfl rfl (pc' := 56) rfl ?_
        refine WP.getf (i := 2) (v := (.int (1 : Int32))) d8_56 (w21 hw) O_q rfl rfl (pc' := 59) rfl ?_
        refine WP.isub d8_59 (pc' := 60) rfl ?_
        rw [show (((0 : Int32) - (1 : Int32)) : Int32) = (-1 : Int32) from by decide]
        exact WP.retI d8_60 rfl (by decide) (by decide) ⟨rfl, _, rfl, by omega, by omega, by refine ⟨?_, ?_, ?_⟩ <;> omega⟩
      exfalso; omega
    refine WP.iload d8_37 rfl (pc' := 39) rfl ?_
    refine WP.iconst d8_39 (z := (1 : Int32)) rfl (pc' := 40) rfl ?_
    refine WP.iadd d8_40 (pc' := 41) rfl ?_
    rw [show (((1 : Int32) + (1 : Int32)) : Int32) = (2 : Int32) from by decide]
    refine WP.istoreN d8_41 (pc' := 42) rfl (ls' := #[.val (.ref q), .val (.long t), .second, .val (.int (2 : Int32)), .val (.int (2 : Int32)), .val (.int (1 : Int32))]) rfl ?_
    refine WP.goto d8_42 (pc' := 49) (by decide) ?_
    refine WP.goto d8_49 (pc' := 11) (by decide) ?_
    refine WP.iloadN d8_11 rfl (pc' := 12) rfl ?_
    refine WP.iload d8_12 rfl (pc' := 14) rfl ?_
    refine WP.icmpGe d8_14 (tgt := 52) (by decide) (pc' := 17) rfl (fun c14 => ?_) (fun c14 => ?_)
    ·
      refine WP.iloadN d8_52 rfl (pc' := 53) rfl ?_
      refine WP.iconst d8_53 (z := (1 : Int32)) rfl (pc' := 54) rfl ?_
      refine WP.isub d8_54 (pc' := 55) rfl ?_
      rw [show (((2 : Int32) - (1 : Int32)) : Int32) = (1 : Int32) from by decide]
      refine WP.aloadN d8_55 rfl rfl (pc' := 56) rfl ?_
      refine WP.getf (i := 2) (v := (.int (1 : Int32))) d8_56 (w21 hw) O_q rfl rfl (pc' := 59) rfl ?_
      refine WP.isub d8_59 (pc' := 60) rfl ?_
      rw [show (((1 : Int32) - (1 : Int32)) : Int32) = (0 : Int32) from by decide]
      exact WP.retI d8_60 rfl (by decide) (by decide) ⟨rfl, _, rfl, by omega, by omega, by refine ⟨?_, ?_, ?_⟩ <;> omega⟩
    exfalso; omega
  refine WP.iload d8_37 rfl (pc' := 39) rfl ?_
  refine WP.iconst d8_39 (z := (1 : Int32)) rfl (pc' := 40) rfl ?_
  refine WP.iadd d8_40 (pc' := 41) rfl ?_
  rw [show (((2 : Int32) + (1 : Int32)) : Int32) = (3 : Int32) from by decide]
  refine WP.istoreN d8_41 (pc' := 42) rfl (ls' := #[.val (.ref q), .val (.long t), .second, .val (.int (3 : Int32)), .val (.int (4 : Int32)), .val (.int (2 : Int32))]) rfl ?_
  refine WP.goto d8_42 (pc' := 49) (by decide) ?_
  refine WP.goto d8_49 (pc' := 11) (by decide) ?_
  refine WP.iloadN d8_11 rfl (pc' := 12) rfl ?_
  refine WP.iload d8_12 rfl (pc' := 14) rfl ?_
  refine WP.icmpGe d8_14 (tgt := 52) (by decide) (pc' := 17) rfl (fun c14 => ?_) (fun c14 => ?_)
  · exfalso; omega
  refine WP.iloadN d8_17 rfl (pc' := 18) rfl ?_
  refine WP.iload d8_18 rfl (pc' := 20) rfl ?_
  refine WP.iadd d8_20 (pc' := 21) rfl ?_
  rw [show (((3 : Int32) + (4 : Int32)) : Int32) = (7 : Int32) from by decide]
  refine WP.iconst d8_21 (z := (1 : Int32)) rfl (pc' := 22) rfl ?_
  refine WP.iushr d8_22 (pc' := 23) rfl ?_
  rw [show (ushr (7 : Int32) (1 : Int32)) = (3 : Int32) from by decide]
  refine WP.istore d8_23 (pc' := 25) rfl (ls' := #[.val (.ref q), .val (.long t), .second, .val (.int (3 : Int32)), .val (.int (4 : Int32)), .val (.int (3 : Int32))]) rfl ?_
  refine WP.aloadN d8_25 rfl rfl (pc' := 26) rfl ?_
  refine WP.getf (i := 0) (v := (.ref r)) d8_26 (w17 hw) O_q rfl rfl (pc' := 29) rfl ?_
  refine WP.iload d8_29 rfl (pc' := 31) rfl ?_
  refine WP.laload 3 d8_31 A_r (x := x3) rfl rfl (pc' := 32) rfl ?_
  refine WP.lloadN d8_32 rfl (pc' := 33) rfl ?_
  refine WP.lcmpGt d8_33 rfl d8_34 (tgt := 45) (by decide) (pc' := 37) rfl (fun c33 => ?_) (fun c33 => ?_)
  ·
    refine WP.iload d8_45 rfl (pc' := 47) rfl ?_
    refine WP.istore d8_47 (pc' := 49) rfl (ls' := #[.val (.ref q), .val (.long t), .second, .val (.int (3 : Int32)), .val (.int (3 : Int32)), .val (.int (3 : Int32))]) rfl ?_
    refine WP.goto d8_49 (pc' := 11) (by decide) ?_
    refine WP.iloadN d8_11 rfl (pc' := 12) rfl ?_
    refine WP.iload d8_12 rfl (pc' := 14) rfl ?_
    refine WP.icmpGe d8_14 (tgt := 52) (by decide) (pc' := 17) rfl (fun c14 => ?_) (fun c14 => ?_)
    ·
      refine WP.iloadN d8_52 rfl (pc' := 53) rfl ?_
      refine WP.iconst d8_53 (z := (1 : Int32)) rfl (pc' := 54) rfl ?_
      refine WP.isub d8_54 (pc' := 55) rfl ?_
      rw [show (((3 : Int32) - (1 : Int32)) : Int32) = (2 : Int32) from by decide]
      refine WP.aloadN d8_55 rfl rfl (pc' := 56) rfl ?_
      refine WP.getf (i := 2) (v := (.int (1 : Int32))) d8_56 (w21 hw) O_q rfl rfl (pc' := 59) rfl ?_
      refine WP.isub d8_59 (pc' := 60) rfl ?_
      rw [show (((2 : Int32) - (1 : Int32)) : Int32) = (1 : Int32) from by decide]
      exact WP.retI d8_60 rfl (by decide) (by decide) ⟨rfl, _, rfl, by omega, by omega, by refine ⟨?_, ?_, ?_⟩ <;> omega⟩
    exfalso; omega
  refine WP.iload d8_37 rfl (pc' := 39) rfl ?_
  refine WP.iconst d8_39 (z := (1 : Int32)) rfl (pc' := 40) rfl ?_
  refine WP.iadd d8_40 (pc' := 41) rfl ?_
  rw [show (((3 : Int32) + (1 : Int32)) : Int32) = (4 : Int32) from by decide]
  refine WP.istoreN d8_41 (pc' := 42) rfl (ls' := #[.val (.ref q), .val (.long t), .second, .val (.int (4 : Int32)), .val (.int (4 : Int32)), .val (.int (3 : Int32))]) rfl ?_
  refine WP.goto d8_42 (pc' := 49) (by decide) ?_
  refine WP.goto d8_49 (pc' := 11) (by decide) ?_
  refine WP.iloadN d8_11 rfl (pc' := 12) rfl ?_
  refine WP.iload d8_12 rfl (pc' := 14) rfl ?_
  refine WP.icmpGe d8_14 (tgt := 52) (by decide) (pc' := 17) rfl (fun c14 => ?_) (fun c14 => ?_)
  ·
    refine WP.iloadN d8_52 rfl (pc' := 53) rfl ?_
    refine WP.iconst d8_53 (z := (1 : Int32)) rfl (pc' := 54) rfl ?_
    refine WP.isub d8_54 (pc' := 55) rfl ?_
    rw [show (((4 : Int32) - (1 : Int32)) : Int32) = (3 : Int32) from by decide]
    refine WP.aloadN d8_55 rfl rfl (pc' := 56) rfl ?_
    refine WP.getf (i := 2) (v := (.int (1 : Int32))) d8_56 (w21 hw) O_q rfl rfl (pc' := 59) rfl ?_
    refine WP.isub d8_59 (pc' := 60) rfl ?_
    rw [show (((3 : Int32) - (1 : Int32)) : Int32) = (2 : Int32) from by decide]
    exact WP.retI d8_60 rfl (by decide) (by decide) ⟨rfl, _, rfl, by omega, by omega, by refine ⟨?_, ?_, ?_⟩ <;> omega⟩
  exfalso; omega
theorem flo_0_5 {l : Launch} {Z : State} {a0 : Array Value} (hw : HW Z a0) {n0 : Nat} {h : Heap} (q r e : Addr) (t x0 x1 x2 x3 x4 : Int64) (O_q : Ob Z h q "com/example/apportion/apportion/IdleGaps" L_IG [(.ref r), (.ref e), (.int (0 : Int32)), (.int (5 : Int32))]) (A_r : Av Z h r .long [(.long x0), (.long x1), (.long x2), (.long x3), (.long x4), (.long 0), (.long 0), (.long 0)]) (hs : x0.toInt < x1.toInt ∧ x1.toInt < x2.toInt ∧ x2.toInt < x3.toInt ∧ x3.toInt < x4.toInt) : OMet l (⟨"com/example/apportion/apportion/IdleGaps", "floor", "(J)I"⟩ : MethodName) B8 Z n0 #[(.ref q), (.long t)] h (fun v h' => h = h' ∧ ∃ r : Int32, v = some (.int r) ∧ -1 ≤ r.toInt ∧ r.toInt < 5 ∧ ((x0.toInt ≤ t.toInt ∧ 0 ≤ r.toInt) ∨ (t.toInt < x0.toInt ∧ r.toInt < 0)) ∧ ((x1.toInt ≤ t.toInt ∧ 1 ≤ r.toInt) ∨ (t.toInt < x1.toInt ∧ r.toInt < 1)) ∧ ((x2.toInt ≤ t.toInt ∧ 2 ≤ r.toInt) ∨ (t.toInt < x2.toInt ∧ r.toInt < 2)) ∧ ((x3.toInt ≤ t.toInt ∧ 3 ≤ r.toInt) ∨ (t.toInt < x3.toInt ∧ r.toInt < 3)) ∧ ((x4.toInt ≤ t.toInt ∧ 4 ≤ r.toInt) ∨ (t.toInt < x4.toInt ∧ r.toInt < 4))) := by
  refine OMet.of_wp (ls0 := #[.val (.ref q), .val (.long t), .second, .unset, .unset, .unset]) pl8 rfl rfl (fun m => own_entry 3 rfl rfl) ?_
  have k32_m1 : (-1 : Int32).toInt = -1 := by decide
  have k32_0 : (0 : Int32).toInt = 0 := by decide
  have k32_1 : (1 : Int32).toInt = 1 := by decide
  have k32_2 : (2 : Int32).toInt = 2 := by decide
  have k32_3 : (3 : Int32).toInt = 3 := by decide
  have k32_4 : (4 : Int32).toInt = 4 := by decide
  have k32_5 : (5 : Int32).toInt = 5 := by decide
  have k32_7 : (7 : Int32).toInt = 7 := by decide
  have k32_8 : (8 : Int32).toInt = 8 := by decide
  refine WP.aloadN d8_0 rfl rfl (pc' := 1) rfl ?_
  refine WP.getf (i := 2) (v := (.int (0 : Int32))) d8_1 (w21 hw) O_q rfl rfl (pc' := 4) rfl ?_
  refine WP.istoreN d8_4 (pc' := 5) rfl (ls' := #[.val (.ref q), .val (.long t), .second, .val (.int (0 : Int32)), .unset, .unset]) rfl ?_
  refine WP.aloadN d8_5 rfl rfl (pc' := 6) rfl ?_
  refine WP.getf (i := 3) (v := (.int (5 : Int32))) d8_6 (w23 hw) O_q rfl rfl (pc' := 9) rfl ?_
  refine WP.istore d8_9 (pc' := 11) rfl (ls' := #[.val (.ref q), .val (.long t), .second, .val (.int (0 : Int32)), .val (.int (5 : Int32)), .unset]) rfl ?_
  refine WP.iloadN d8_11 rfl (pc' := 12) rfl ?_
  refine WP.iload d8_12 rfl (pc' := 14) rfl ?_
  refine WP.icmpGe d8_14 (tgt := 52) (by decide) (pc' := 17) rfl (fun c14 => ?_) (fun c14 => ?_)
  · exfalso; omega
  refine WP.iloadN d8_17 rfl (pc' := 18) rfl ?_
  refine WP.iload d8_18 rfl (pc' := 20) rfl ?_
  refine WP.iadd d8_20 (pc' := 21) rfl ?_
  rw [show (((0 : Int32) + (5 : Int32)) : Int32) = (5 : Int32) from by decide]
  refine WP.iconst d8_21 (z := (1 : Int32)) rfl (pc' := 22) rfl ?_
  refine WP.iushr d8_22 (pc' := 23) rfl ?_
  rw [show (ushr (5 : Int32) (1 : Int32)) = (2 : Int32) from by decide]
  refine WP.istore d8_23 (pc' := 25) rfl (ls' := #[.val (.ref q), .val (.long t), .second, .val (.int (0 : Int32)), .val (.int (5 : Int32)), .val (.int (2 : Int32))]) rfl ?_
  refine WP.aloadN d8_25 rfl rfl (pc' := 26) rfl ?_
  refine WP.getf (i := 0) (v := (.ref r)) d8_26 (w17 hw) O_q rfl rfl (pc' := 29) rfl ?_
  refine WP.iload d8_29 rfl (pc' := 31) rfl ?_
  refine WP.laload 2 d8_31 A_r (x := x2) rfl rfl (pc' := 32) rfl ?_
  refine WP.lloadN d8_32 rfl (pc' := 33) rfl ?_
  refine WP.lcmpGt d8_33 rfl d8_34 (tgt := 45) (by decide) (pc' := 37) rfl (fun c33 => ?_) (fun c33 => ?_)
  ·
    refine WP.iload d8_45 rfl (pc' := 47) rfl ?_
    refine WP.istore d8_47 (pc' := 49) rfl (ls' := #[.val (.ref q), .val (.long t), .second, .val (.int (0 : Int32)), .val (.int (2 : Int32)), .val (.int (2 : Int32))]) rfl ?_
    refine WP.goto d8_49 (pc' := 11) (by decide) ?_
    refine WP.iloadN d8_11 rfl (pc' := 12) rfl ?_
    refine WP.iload d8_12 rfl (pc' := 14) rfl ?_
    refine WP.icmpGe d8_14 (tgt := 52) (by decide) (pc' := 17) rfl (fun c14 => ?_) (fun c14 => ?_)
    · exfalso; omega
    refine WP.iloadN d8_17 rfl (pc' := 18) rfl ?_
    refine WP.iload d8_18 rfl (pc' := 20) rfl ?_
    refine WP.iadd d8_20 (pc' := 21) rfl ?_
    rw [show (((0 : Int32) + (2 : Int32)) : Int32) = (2 : Int32) from by decide]
    refine WP.iconst d8_21 (z := (1 : Int32)) rfl (pc' := 22) rfl ?_
    refine WP.iushr d8_22 (pc' := 23) rfl ?_
    rw [show (ushr (2 : Int32) (1 : Int32)) = (1 : Int32) from by decide]
    refine WP.istore d8_23 (pc' := 25) rfl (ls' := #[.val (.ref q), .val (.long t), .second, .val (.int (0 : Int32)), .val (.int (2 : Int32)), .val (.int (1 : Int32))]) rfl ?_
    refine WP.aloadN d8_25 rfl rfl (pc' := 26) rfl ?_
    refine WP.getf (i := 0) (v := (.ref r)) d8_26 (w17 hw) O_q rfl rfl (pc' := 29) rfl ?_
    refine WP.iload d8_29 rfl (pc' := 31) rfl ?_
    refine WP.laload 1 d8_31 A_r (x := x1) rfl rfl (pc' := 32) rfl ?_
    refine WP.lloadN d8_32 rfl (pc' := 33) rfl ?_
    refine WP.lcmpGt d8_33 rfl d8_34 (tgt := 45) (by decide) (pc' := 37) rfl (fun c33 => ?_) (fun c33 => ?_)
    ·
      refine WP.iload d8_45 rfl (pc' := 47) rfl ?_
      refine WP.istore d8_47 (pc' := 49) rfl (ls' := #[.val (.ref q), .val (.long t), .second, .val (.int (0 : Int32)), .val (.int (1 : Int32)), .val (.int (1 : Int32))]) rfl ?_
      refine WP.goto d8_49 (pc' := 11) (by decide) ?_
      refine WP.iloadN d8_11 rfl (pc' := 12) rfl ?_
      refine WP.iload d8_12 rfl (pc' := 14) rfl ?_
      refine WP.icmpGe d8_14 (tgt := 52) (by decide) (pc' := 17) rfl (fun c14 => ?_) (fun c14 => ?_)
      · exfalso; omega
      refine WP.iloadN d8_17 rfl (pc' := 18) rfl ?_
      refine WP.iload d8_18 rfl (pc' := 20) rfl ?_
      refine WP.iadd d8_20 (pc' := 21) rfl ?_
      rw [show (((0 : Int32) + (1 : Int32)) : Int32) = (1 : Int32) from by decide]
      refine WP.iconst d8_21 (z := (1 : Int32)) rfl (pc' := 22) rfl ?_
      refine WP.iushr d8_22 (pc' := 23) rfl ?_
      rw [show (ushr (1 : Int32) (1 : Int32)) = (0 : Int32) from by decide]
      refine WP.istore d8_23 (pc' := 25) rfl (ls' := #[.val (.ref q), .val (.long t), .second, .val (.int (0 : Int32)), .val (.int (1 : Int32)), .val (.int (0 : Int32))]) rfl ?_
      refine WP.aloadN d8_25 rfl rfl (pc' := 26) rfl ?_
      refine WP.getf (i := 0) (v := (.ref r)) d8_26 (w17 hw) O_q rfl rfl (pc' := 29) rfl ?_
      refine WP.iload d8_29 rfl (pc' := 31) rfl ?_
      refine WP.laload 0 d8_31 A_r (x := x0) rfl rfl (pc' := 32) rfl ?_
      refine WP.lloadN d8_32 rfl (pc' := 33) rfl ?_
      refine WP.lcmpGt d8_33 rfl d8_34 (tgt := 45) (by decide) (pc' := 37) rfl (fun c33 => ?_) (fun c33 => ?_)
      ·
        refine WP.iload d8_45 rfl (pc' := 47) rfl ?_
        refine WP.istore d8_47 (pc' := 49) rfl (ls' := #[.val (.ref q), .val (.long t), .second, .val (.int (0 : Int32)), .val (.int (0 : Int32)), .val (.int (0 : Int32))]) rfl ?_
        refine WP.goto d8_49 (pc' := 11) (by decide) ?_
        refine WP.iloadN d8_11 rfl (pc' := 12) rfl ?_
        refine WP.iload d8_12 rfl (pc' := 14) rfl ?_
        refine WP.icmpGe d8_14 (tgt := 52) (by decide) (pc' := 17) rfl (fun c14 => ?_) (fun c14 => ?_)
        ·
          refine WP.iloadN d8_52 rfl (pc' := 53) rfl ?_
          refine WP.iconst d8_53 (z := (1 : Int32)) rfl (pc' := 54) rfl ?_
          refine WP.isub d8_54 (pc' := 55) rfl ?_
          rw [show (((0 : Int32) - (1 : Int32)) : Int32) = (-1 : Int32) from by decide]
          refine WP.aloadN d8_55 rfl rfl (pc' := 56) rfl ?_
          refine WP.getf (i := 2) (v := (.int (0 : Int32))) d8_56 (w21 hw) O_q rfl rfl (pc' := 59) rfl ?_
          refine WP.isub d8_59 (pc' := 60) rfl ?_
          rw [show (((-1 : Int32) - (0 : Int32)) : Int32) = (-1 : Int32) from by decide]
          exact WP.retI d8_60 rfl (by decide) (by decide) ⟨rfl, _, rfl, by omega, by omega, by refine ⟨?_, ?_, ?_, ?_, ?_⟩ <;> omega⟩
        exfalso; omega
      refine WP.iload d8_37 rfl (pc' := 39) rfl ?_
      refine WP.iconst d8_39 (z := (1 : Int32)) rfl (pc' := 40) rfl ?_
      refine WP.iadd d8_40 (pc' := 41) rfl ?_
      rw [show (((0 : Int32) + (1 : Int32)) : Int32) = (1 : Int32) from by decide]
      refine WP.istoreN d8_41 (pc' := 42) rfl (ls' := #[.val (.ref q), .val (.long t), .second, .val (.int (1 : Int32)), .val (.int (1 : Int32)), .val (.int (0 : Int32))]) rfl ?_
      refine WP.goto d8_42 (pc' := 49) (by decide) ?_
      refine WP.goto d8_49 (pc' := 11) (by decide) ?_
      refine WP.iloadN d8_11 rfl (pc' := 12) rfl ?_
      refine WP.iload d8_12 rfl (pc' := 14) rfl ?_
      refine WP.icmpGe d8_14 (tgt := 52) (by decide) (pc' := 17) rfl (fun c14 => ?_) (fun c14 => ?_)
      ·
        refine WP.iloadN d8_52 rfl (pc' := 53) rfl ?_
        refine WP.iconst d8_53 (z := (1 : Int32)) rfl (pc' := 54) rfl ?_
        refine WP.isub d8_54 (pc' := 55) rfl ?_
        rw [show (((1 : Int32) - (1 : Int32)) : Int32) = (0 : Int32) from by decide]
        refine WP.aloadN d8_55 rfl rfl (pc' := 56) rfl ?_
        refine WP.getf (i := 2) (v := (.int (0 : Int32))) d8_56 (w21 hw) O_q rfl rfl (pc' := 59) rfl ?_
        refine WP.isub d8_59 (pc' := 60) rfl ?_
        rw [show (((0 : Int32) - (0 : Int32)) : Int32) = (0 : Int32) from by decide]
        exact WP.retI d8_60 rfl (by decide) (by decide) ⟨rfl, _, rfl, by omega, by omega, by refine ⟨?_, ?_, ?_, ?_, ?_⟩ <;> omega⟩
      exfalso; omega
    refine WP.iload d8_37 rfl (pc' := 39) rfl ?_
    refine WP.iconst d8_39 (z := (1 : Int32)) rfl (pc' := 40) rfl ?_
    refine WP.iadd d8_40 (pc' := 41) rfl ?_
    rw [show (((1 : Int32) + (1 : Int32)) : Int32) = (2 : Int32) from by decide]
    refine WP.istoreN d8_41 (pc' := 42) rfl (ls' := #[.val (.ref q), .val (.long t), .second, .val (.int (2 : Int32)), .val (.int (2 : Int32)), .val (.int (1 : Int32))]) rfl ?_
    refine WP.goto d8_42 (pc' := 49) (by decide) ?_
    refine WP.goto d8_49 (pc' := 11) (by decide) ?_
    refine WP.iloadN d8_11 rfl (pc' := 12) rfl ?_
    refine WP.iload d8_12 rfl (pc' := 14) rfl ?_
    refine WP.icmpGe d8_14 (tgt := 52) (by decide) (pc' := 17) rfl (fun c14 => ?_) (fun c14 => ?_)
    ·
      refine WP.iloadN d8_52 rfl (pc' := 53) rfl ?_
      refine WP.iconst d8_53 (z := (1 : Int32)) rfl (pc' := 54) rfl ?_
      refine WP.isub d8_54 (pc' := 55) rfl ?_
      rw [show (((2 : Int32) - (1 : Int32)) : Int32) = (1 : Int32) from by decide]
      refine WP.aloadN d8_55 rfl rfl (pc' := 56) rfl ?_
      refine WP.getf (i := 2) (v := (.int (0 : Int32))) d8_56 (w21 hw) O_q rfl rfl (pc' := 59) rfl ?_
      refine WP.isub d8_59 (pc' := 60) rfl ?_
      rw [show (((1 : Int32) - (0 : Int32)) : Int32) = (1 : Int32) from by decide]
      exact WP.retI d8_60 rfl (by decide) (by decide) ⟨rfl, _, rfl, by omega, by omega, by refine ⟨?_, ?_, ?_, ?_, ?_⟩ <;> omega⟩
    exfalso; omega
  refine WP.iload d8_37 rfl (pc' := 39) rfl ?_
  refine WP.iconst d8_39 (z := (1 : Int32)) rfl (pc' := 40) rfl ?_
  refine WP.iadd d8_40 (pc' := 41) rfl ?_
  rw [show (((2 : Int32) + (1 : Int32)) : Int32) = (3 : Int32) from by decide]
  refine WP.istoreN d8_41 (pc' := 42) rfl (ls' := #[.val (.ref q), .val (.long t), .second, .val (.int (3 : Int32)), .val (.int (5 : Int32)), .val (.int (2 : Int32))]) rfl ?_
  refine WP.goto d8_42 (pc' := 49) (by decide) ?_
  refine WP.goto d8_49 (pc' := 11) (by decide) ?_
  refine WP.iloadN d8_11 rfl (pc' := 12) rfl ?_
  refine WP.iload d8_12 rfl (pc' := 14) rfl ?_
  refine WP.icmpGe d8_14 (tgt := 52) (by decide) (pc' := 17) rfl (fun c14 => ?_) (fun c14 => ?_)
  · exfalso; omega
  refine WP.iloadN d8_17 rfl (pc' := 18) rfl ?_
  refine WP.iload d8_18 rfl (pc' := 20) rfl ?_
  refine WP.iadd d8_20 (pc' := 21) rfl ?_
  rw [show (((3 : Int32) + (5 : Int32)) : Int32) = (8 : Int32) from by decide]
  refine WP.iconst d8_21 (z := (1 : Int32)) rfl (pc' := 22) rfl ?_
  refine WP.iushr d8_22 (pc' := 23) rfl ?_
  rw [show (ushr (8 : Int32) (1 : Int32)) = (4 : Int32) from by decide]
  refine WP.istore d8_23 (pc' := 25) rfl (ls' := #[.val (.ref q), .val (.long t), .second, .val (.int (3 : Int32)), .val (.int (5 : Int32)), .val (.int (4 : Int32))]) rfl ?_
  refine WP.aloadN d8_25 rfl rfl (pc' := 26) rfl ?_
  refine WP.getf (i := 0) (v := (.ref r)) d8_26 (w17 hw) O_q rfl rfl (pc' := 29) rfl ?_
  refine WP.iload d8_29 rfl (pc' := 31) rfl ?_
  refine WP.laload 4 d8_31 A_r (x := x4) rfl rfl (pc' := 32) rfl ?_
  refine WP.lloadN d8_32 rfl (pc' := 33) rfl ?_
  refine WP.lcmpGt d8_33 rfl d8_34 (tgt := 45) (by decide) (pc' := 37) rfl (fun c33 => ?_) (fun c33 => ?_)
  ·
    refine WP.iload d8_45 rfl (pc' := 47) rfl ?_
    refine WP.istore d8_47 (pc' := 49) rfl (ls' := #[.val (.ref q), .val (.long t), .second, .val (.int (3 : Int32)), .val (.int (4 : Int32)), .val (.int (4 : Int32))]) rfl ?_
    refine WP.goto d8_49 (pc' := 11) (by decide) ?_
    refine WP.iloadN d8_11 rfl (pc' := 12) rfl ?_
    refine WP.iload d8_12 rfl (pc' := 14) rfl ?_
    refine WP.icmpGe d8_14 (tgt := 52) (by decide) (pc' := 17) rfl (fun c14 => ?_) (fun c14 => ?_)
    · exfalso; omega
    refine WP.iloadN d8_17 rfl (pc' := 18) rfl ?_
    refine WP.iload d8_18 rfl (pc' := 20) rfl ?_
    refine WP.iadd d8_20 (pc' := 21) rfl ?_
    rw [show (((3 : Int32) + (4 : Int32)) : Int32) = (7 : Int32) from by decide]
    refine WP.iconst d8_21 (z := (1 : Int32)) rfl (pc' := 22) rfl ?_
    refine WP.iushr d8_22 (pc' := 23) rfl ?_
    rw [show (ushr (7 : Int32) (1 : Int32)) = (3 : Int32) from by decide]
    refine WP.istore d8_23 (pc' := 25) rfl (ls' := #[.val (.ref q), .val (.long t), .second, .val (.int (3 : Int32)), .val (.int (4 : Int32)), .val (.int (3 : Int32))]) rfl ?_
    refine WP.aloadN d8_25 rfl rfl (pc' := 26) rfl ?_
    refine WP.getf (i := 0) (v := (.ref r)) d8_26 (w17 hw) O_q rfl rfl (pc' := 29) rfl ?_
    refine WP.iload d8_29 rfl (pc' := 31) rfl ?_
    refine WP.laload 3 d8_31 A_r (x := x3) rfl rfl (pc' := 32) rfl ?_
    refine WP.lloadN d8_32 rfl (pc' := 33) rfl ?_
    refine WP.lcmpGt d8_33 rfl d8_34 (tgt := 45) (by decide) (pc' := 37) rfl (fun c33 => ?_) (fun c33 => ?_)
    ·
      refine WP.iload d8_45 rfl (pc' := 47) rfl ?_
      refine WP.istore d8_47 (pc' := 49) rfl (ls' := #[.val (.ref q), .val (.long t), .second, .val (.int (3 : Int32)), .val (.int (3 : Int32)), .val (.int (3 : Int32))]) rfl ?_
      refine WP.goto d8_49 (pc' := 11) (by decide) ?_
      refine WP.iloadN d8_11 rfl (pc' := 12) rfl ?_
      refine WP.iload d8_12 rfl (pc' := 14) rfl ?_
      refine WP.icmpGe d8_14 (tgt := 52) (by decide) (pc' := 17) rfl (fun c14 => ?_) (fun c14 => ?_)
      ·
        refine WP.iloadN d8_52 rfl (pc' := 53) rfl ?_
        refine WP.iconst d8_53 (z := (1 : Int32)) rfl (pc' := 54) rfl ?_
        refine WP.isub d8_54 (pc' := 55) rfl ?_
        rw [show (((3 : Int32) - (1 : Int32)) : Int32) = (2 : Int32) from by decide]
        refine WP.aloadN d8_55 rfl rfl (pc' := 56) rfl ?_
        refine WP.getf (i := 2) (v := (.int (0 : Int32))) d8_56 (w21 hw) O_q rfl rfl (pc' := 59) rfl ?_
        refine WP.isub d8_59 (pc' := 60) rfl ?_
        rw [show (((2 : Int32) - (0 : Int32)) : Int32) = (2 : Int32) from by decide]
        exact WP.retI d8_60 rfl (by decide) (by decide) ⟨rfl, _, rfl, by omega, by omega, by refine ⟨?_, ?_, ?_, ?_, ?_⟩ <;> omega⟩
      exfalso; omega
    refine WP.iload d8_37 rfl (pc' := 39) rfl ?_
    refine WP.iconst d8_39 (z := (1 : Int32)) rfl (pc' := 40) rfl ?_
    refine WP.iadd d8_40 (pc' := 41) rfl ?_
    rw [show (((3 : Int32) + (1 : Int32)) : Int32) = (4 : Int32) from by decide]
    refine WP.istoreN d8_41 (pc' := 42) rfl (ls' := #[.val (.ref q), .val (.long t), .second, .val (.int (4 : Int32)), .val (.int (4 : Int32)), .val (.int (3 : Int32))]) rfl ?_
    refine WP.goto d8_42 (pc' := 49) (by decide) ?_
    refine WP.goto d8_49 (pc' := 11) (by decide) ?_
    refine WP.iloadN d8_11 rfl (pc' := 12) rfl ?_
    refine WP.iload d8_12 rfl (pc' := 14) rfl ?_
    refine WP.icmpGe d8_14 (tgt := 52) (by decide) (pc' := 17) rfl (fun c14 => ?_) (fun c14 => ?_)
    ·
      refine WP.iloadN d8_52 rfl (pc' := 53) rfl ?_
      refine WP.iconst d8_53 (z := (1 : Int32)) rfl (pc' := 54) rfl ?_
      refine WP.isub d8_54 (pc' := 55) rfl ?_
      rw [show (((4 : Int32) - (1 : Int32)) : Int32) = (3 : Int32) from by decide]
      refine WP.aloadN d8_55 rfl rfl (pc' := 56) rfl ?_
      refine WP.getf (i := 2) (v := (.int (0 : Int32))) d8_56 (w21 hw) O_q rfl rfl (pc' := 59) rfl ?_
      refine WP.isub d8_59 (pc' := 60) rfl ?_
      rw [show (((3 : Int32) - (0 : Int32)) : Int32) = (3 : Int32) from by decide]
      exact WP.retI d8_60 rfl (by decide) (by decide) ⟨rfl, _, rfl, by omega, by omega, by refine ⟨?_, ?_, ?_, ?_, ?_⟩ <;> omega⟩
    exfalso; omega
  refine WP.iload d8_37 rfl (pc' := 39) rfl ?_
  refine WP.iconst d8_39 (z := (1 : Int32)) rfl (pc' := 40) rfl ?_
  refine WP.iadd d8_40 (pc' := 41) rfl ?_
  rw [show (((4 : Int32) + (1 : Int32)) : Int32) = (5 : Int32) from by decide]
  refine WP.istoreN d8_41 (pc' := 42) rfl (ls' := #[.val (.ref q), .val (.long t), .second, .val (.int (5 : Int32)), .val (.int (5 : Int32)), .val (.int (4 : Int32))]) rfl ?_
  refine WP.goto d8_42 (pc' := 49) (by decide) ?_
  refine WP.goto d8_49 (pc' := 11) (by decide) ?_
  refine WP.iloadN d8_11 rfl (pc' := 12) rfl ?_
  refine WP.iload d8_12 rfl (pc' := 14) rfl ?_
  refine WP.icmpGe d8_14 (tgt := 52) (by decide) (pc' := 17) rfl (fun c14 => ?_) (fun c14 => ?_)
  ·
    refine WP.iloadN d8_52 rfl (pc' := 53) rfl ?_
    refine WP.iconst d8_53 (z := (1 : Int32)) rfl (pc' := 54) rfl ?_
    refine WP.isub d8_54 (pc' := 55) rfl ?_
    rw [show (((5 : Int32) - (1 : Int32)) : Int32) = (4 : Int32) from by decide]
    refine WP.aloadN d8_55 rfl rfl (pc' := 56) rfl ?_
    refine WP.getf (i := 2) (v := (.int (0 : Int32))) d8_56 (w21 hw) O_q rfl rfl (pc' := 59) rfl ?_
    refine WP.isub d8_59 (pc' := 60) rfl ?_
    rw [show (((4 : Int32) - (0 : Int32)) : Int32) = (4 : Int32) from by decide]
    exact WP.retI d8_60 rfl (by decide) (by decide) ⟨rfl, _, rfl, by omega, by omega, by refine ⟨?_, ?_, ?_, ?_, ?_⟩ <;> omega⟩
  exfalso; omega
theorem flo_1_5 {l : Launch} {Z : State} {a0 : Array Value} (hw : HW Z a0) {n0 : Nat} {h : Heap} (q r e : Addr) (t x0 x1 x2 x3 x4 : Int64) (O_q : Ob Z h q "com/example/apportion/apportion/IdleGaps" L_IG [(.ref r), (.ref e), (.int (1 : Int32)), (.int (5 : Int32))]) (A_r : Av Z h r .long [(.long x0), (.long x1), (.long x2), (.long x3), (.long x4), (.long 0), (.long 0), (.long 0)]) (hs : x0.toInt < x1.toInt ∧ x1.toInt < x2.toInt ∧ x2.toInt < x3.toInt ∧ x3.toInt < x4.toInt) : OMet l (⟨"com/example/apportion/apportion/IdleGaps", "floor", "(J)I"⟩ : MethodName) B8 Z n0 #[(.ref q), (.long t)] h (fun v h' => h = h' ∧ ∃ r : Int32, v = some (.int r) ∧ -1 ≤ r.toInt ∧ r.toInt < 4 ∧ ((x1.toInt ≤ t.toInt ∧ 0 ≤ r.toInt) ∨ (t.toInt < x1.toInt ∧ r.toInt < 0)) ∧ ((x2.toInt ≤ t.toInt ∧ 1 ≤ r.toInt) ∨ (t.toInt < x2.toInt ∧ r.toInt < 1)) ∧ ((x3.toInt ≤ t.toInt ∧ 2 ≤ r.toInt) ∨ (t.toInt < x3.toInt ∧ r.toInt < 2)) ∧ ((x4.toInt ≤ t.toInt ∧ 3 ≤ r.toInt) ∨ (t.toInt < x4.toInt ∧ r.toInt < 3))) := by
  refine OMet.of_wp (ls0 := #[.val (.ref q), .val (.long t), .second, .unset, .unset, .unset]) pl8 rfl rfl (fun m => own_entry 3 rfl rfl) ?_
  have k32_m1 : (-1 : Int32).toInt = -1 := by decide
  have k32_0 : (0 : Int32).toInt = 0 := by decide
  have k32_1 : (1 : Int32).toInt = 1 := by decide
  have k32_2 : (2 : Int32).toInt = 2 := by decide
  have k32_3 : (3 : Int32).toInt = 3 := by decide
  have k32_4 : (4 : Int32).toInt = 4 := by decide
  have k32_5 : (5 : Int32).toInt = 5 := by decide
  have k32_6 : (6 : Int32).toInt = 6 := by decide
  have k32_9 : (9 : Int32).toInt = 9 := by decide
  refine WP.aloadN d8_0 rfl rfl (pc' := 1) rfl ?_
  refine WP.getf (i := 2) (v := (.int (1 : Int32))) d8_1 (w21 hw) O_q rfl rfl (pc' := 4) rfl ?_
  refine WP.istoreN d8_4 (pc' := 5) rfl (ls' := #[.val (.ref q), .val (.long t), .second, .val (.int (1 : Int32)), .unset, .unset]) rfl ?_
  refine WP.aloadN d8_5 rfl rfl (pc' := 6) rfl ?_
  refine WP.getf (i := 3) (v := (.int (5 : Int32))) d8_6 (w23 hw) O_q rfl rfl (pc' := 9) rfl ?_
  refine WP.istore d8_9 (pc' := 11) rfl (ls' := #[.val (.ref q), .val (.long t), .second, .val (.int (1 : Int32)), .val (.int (5 : Int32)), .unset]) rfl ?_
  refine WP.iloadN d8_11 rfl (pc' := 12) rfl ?_
  refine WP.iload d8_12 rfl (pc' := 14) rfl ?_
  refine WP.icmpGe d8_14 (tgt := 52) (by decide) (pc' := 17) rfl (fun c14 => ?_) (fun c14 => ?_)
  · exfalso; omega
  refine WP.iloadN d8_17 rfl (pc' := 18) rfl ?_
  refine WP.iload d8_18 rfl (pc' := 20) rfl ?_
  refine WP.iadd d8_20 (pc' := 21) rfl ?_
  rw [show (((1 : Int32) + (5 : Int32)) : Int32) = (6 : Int32) from by decide]
  refine WP.iconst d8_21 (z := (1 : Int32)) rfl (pc' := 22) rfl ?_
  refine WP.iushr d8_22 (pc' := 23) rfl ?_
  rw [show (ushr (6 : Int32) (1 : Int32)) = (3 : Int32) from by decide]
  refine WP.istore d8_23 (pc' := 25) rfl (ls' := #[.val (.ref q), .val (.long t), .second, .val (.int (1 : Int32)), .val (.int (5 : Int32)), .val (.int (3 : Int32))]) rfl ?_
  refine WP.aloadN d8_25 rfl rfl (pc' := 26) rfl ?_
  refine WP.getf (i := 0) (v := (.ref r)) d8_26 (w17 hw) O_q rfl rfl (pc' := 29) rfl ?_
  refine WP.iload d8_29 rfl (pc' := 31) rfl ?_
  refine WP.laload 3 d8_31 A_r (x := x3) rfl rfl (pc' := 32) rfl ?_
  refine WP.lloadN d8_32 rfl (pc' := 33) rfl ?_
  refine WP.lcmpGt d8_33 rfl d8_34 (tgt := 45) (by decide) (pc' := 37) rfl (fun c33 => ?_) (fun c33 => ?_)
  ·
    refine WP.iload d8_45 rfl (pc' := 47) rfl ?_
    refine WP.istore d8_47 (pc' := 49) rfl (ls' := #[.val (.ref q), .val (.long t), .second, .val (.int (1 : Int32)), .val (.int (3 : Int32)), .val (.int (3 : Int32))]) rfl ?_
    refine WP.goto d8_49 (pc' := 11) (by decide) ?_
    refine WP.iloadN d8_11 rfl (pc' := 12) rfl ?_
    refine WP.iload d8_12 rfl (pc' := 14) rfl ?_
    refine WP.icmpGe d8_14 (tgt := 52) (by decide) (pc' := 17) rfl (fun c14 => ?_) (fun c14 => ?_)
    · exfalso; omega
    refine WP.iloadN d8_17 rfl (pc' := 18) rfl ?_
    refine WP.iload d8_18 rfl (pc' := 20) rfl ?_
    refine WP.iadd d8_20 (pc' := 21) rfl ?_
    rw [show (((1 : Int32) + (3 : Int32)) : Int32) = (4 : Int32) from by decide]
    refine WP.iconst d8_21 (z := (1 : Int32)) rfl (pc' := 22) rfl ?_
    refine WP.iushr d8_22 (pc' := 23) rfl ?_
    rw [show (ushr (4 : Int32) (1 : Int32)) = (2 : Int32) from by decide]
    refine WP.istore d8_23 (pc' := 25) rfl (ls' := #[.val (.ref q), .val (.long t), .second, .val (.int (1 : Int32)), .val (.int (3 : Int32)), .val (.int (2 : Int32))]) rfl ?_
    refine WP.aloadN d8_25 rfl rfl (pc' := 26) rfl ?_
    refine WP.getf (i := 0) (v := (.ref r)) d8_26 (w17 hw) O_q rfl rfl (pc' := 29) rfl ?_
    refine WP.iload d8_29 rfl (pc' := 31) rfl ?_
    refine WP.laload 2 d8_31 A_r (x := x2) rfl rfl (pc' := 32) rfl ?_
    refine WP.lloadN d8_32 rfl (pc' := 33) rfl ?_
    refine WP.lcmpGt d8_33 rfl d8_34 (tgt := 45) (by decide) (pc' := 37) rfl (fun c33 => ?_) (fun c33 => ?_)
    ·
      refine WP.iload d8_45 rfl (pc' := 47) rfl ?_
      refine WP.istore d8_47 (pc' := 49) rfl (ls' := #[.val (.ref q), .val (.long t), .second, .val (.int (1 : Int32)), .val (.int (2 : Int32)), .val (.int (2 : Int32))]) rfl ?_
      refine WP.goto d8_49 (pc' := 11) (by decide) ?_
      refine WP.iloadN d8_11 rfl (pc' := 12) rfl ?_
      refine WP.iload d8_12 rfl (pc' := 14) rfl ?_
      refine WP.icmpGe d8_14 (tgt := 52) (by decide) (pc' := 17) rfl (fun c14 => ?_) (fun c14 => ?_)
      · exfalso; omega
      refine WP.iloadN d8_17 rfl (pc' := 18) rfl ?_
      refine WP.iload d8_18 rfl (pc' := 20) rfl ?_
      refine WP.iadd d8_20 (pc' := 21) rfl ?_
      rw [show (((1 : Int32) + (2 : Int32)) : Int32) = (3 : Int32) from by decide]
      refine WP.iconst d8_21 (z := (1 : Int32)) rfl (pc' := 22) rfl ?_
      refine WP.iushr d8_22 (pc' := 23) rfl ?_
      rw [show (ushr (3 : Int32) (1 : Int32)) = (1 : Int32) from by decide]
      refine WP.istore d8_23 (pc' := 25) rfl (ls' := #[.val (.ref q), .val (.long t), .second, .val (.int (1 : Int32)), .val (.int (2 : Int32)), .val (.int (1 : Int32))]) rfl ?_
      refine WP.aloadN d8_25 rfl rfl (pc' := 26) rfl ?_
      refine WP.getf (i := 0) (v := (.ref r)) d8_26 (w17 hw) O_q rfl rfl (pc' := 29) rfl ?_
      refine WP.iload d8_29 rfl (pc' := 31) rfl ?_
      refine WP.laload 1 d8_31 A_r (x := x1) rfl rfl (pc' := 32) rfl ?_
      refine WP.lloadN d8_32 rfl (pc' := 33) rfl ?_
      refine WP.lcmpGt d8_33 rfl d8_34 (tgt := 45) (by decide) (pc' := 37) rfl (fun c33 => ?_) (fun c33 => ?_)
      ·
        refine WP.iload d8_45 rfl (pc' := 47) rfl ?_
        refine WP.istore d8_47 (pc' := 49) rfl (ls' := #[.val (.ref q), .val (.long t), .second, .val (.int (1 : Int32)), .val (.int (1 : Int32)), .val (.int (1 : Int32))]) rfl ?_
        refine WP.goto d8_49 (pc' := 11) (by decide) ?_
        refine WP.iloadN d8_11 rfl (pc' := 12) rfl ?_
        refine WP.iload d8_12 rfl (pc' := 14) rfl ?_
        refine WP.icmpGe d8_14 (tgt := 52) (by decide) (pc' := 17) rfl (fun c14 => ?_) (fun c14 => ?_)
        ·
          refine WP.iloadN d8_52 rfl (pc' := 53) rfl ?_
          refine WP.iconst d8_53 (z := (1 : Int32)) rfl (pc' := 54) rfl ?_
          refine WP.isub d8_54 (pc' := 55) rfl ?_
          rw [show (((1 : Int32) - (1 : Int32)) : Int32) = (0 : Int32) from by decide]
          refine WP.aloadN d8_55 rfl rfl (pc' := 56) rfl ?_
          refine WP.getf (i := 2) (v := (.int (1 : Int32))) d8_56 (w21 hw) O_q rfl rfl (pc' := 59) rfl ?_
          refine WP.isub d8_59 (pc' := 60) rfl ?_
          rw [show (((0 : Int32) - (1 : Int32)) : Int32) = (-1 : Int32) from by decide]
          exact WP.retI d8_60 rfl (by decide) (by decide) ⟨rfl, _, rfl, by omega, by omega, by refine ⟨?_, ?_, ?_, ?_⟩ <;> omega⟩
        exfalso; omega
      refine WP.iload d8_37 rfl (pc' := 39) rfl ?_
      refine WP.iconst d8_39 (z := (1 : Int32)) rfl (pc' := 40) rfl ?_
      refine WP.iadd d8_40 (pc' := 41) rfl ?_
      rw [show (((1 : Int32) + (1 : Int32)) : Int32) = (2 : Int32) from by decide]
      refine WP.istoreN d8_41 (pc' := 42) rfl (ls' := #[.val (.ref q), .val (.long t), .second, .val (.int (2 : Int32)), .val (.int (2 : Int32)), .val (.int (1 : Int32))]) rfl ?_
      refine WP.goto d8_42 (pc' := 49) (by decide) ?_
      refine WP.goto d8_49 (pc' := 11) (by decide) ?_
      refine WP.iloadN d8_11 rfl (pc' := 12) rfl ?_
      refine WP.iload d8_12 rfl (pc' := 14) rfl ?_
      refine WP.icmpGe d8_14 (tgt := 52) (by decide) (pc' := 17) rfl (fun c14 => ?_) (fun c14 => ?_)
      ·
        refine WP.iloadN d8_52 rfl (pc' := 53) rfl ?_
        refine WP.iconst d8_53 (z := (1 : Int32)) rfl (pc' := 54) rfl ?_
        refine WP.isub d8_54 (pc' := 55) rfl ?_
        rw [show (((2 : Int32) - (1 : Int32)) : Int32) = (1 : Int32) from by decide]
        refine WP.aloadN d8_55 rfl rfl (pc' := 56) rfl ?_
        refine WP.getf (i := 2) (v := (.int (1 : Int32))) d8_56 (w21 hw) O_q rfl rfl (pc' := 59) rfl ?_
        refine WP.isub d8_59 (pc' := 60) rfl ?_
        rw [show (((1 : Int32) - (1 : Int32)) : Int32) = (0 : Int32) from by decide]
        exact WP.retI d8_60 rfl (by decide) (by decide) ⟨rfl, _, rfl, by omega, by omega, by refine ⟨?_, ?_, ?_, ?_⟩ <;> omega⟩
      exfalso; omega
    refine WP.iload d8_37 rfl (pc' := 39) rfl ?_
    refine WP.iconst d8_39 (z := (1 : Int32)) rfl (pc' := 40) rfl ?_
    refine WP.iadd d8_40 (pc' := 41) rfl ?_
    rw [show (((2 : Int32) + (1 : Int32)) : Int32) = (3 : Int32) from by decide]
    refine WP.istoreN d8_41 (pc' := 42) rfl (ls' := #[.val (.ref q), .val (.long t), .second, .val (.int (3 : Int32)), .val (.int (3 : Int32)), .val (.int (2 : Int32))]) rfl ?_
    refine WP.goto d8_42 (pc' := 49) (by decide) ?_
    refine WP.goto d8_49 (pc' := 11) (by decide) ?_
    refine WP.iloadN d8_11 rfl (pc' := 12) rfl ?_
    refine WP.iload d8_12 rfl (pc' := 14) rfl ?_
    refine WP.icmpGe d8_14 (tgt := 52) (by decide) (pc' := 17) rfl (fun c14 => ?_) (fun c14 => ?_)
    ·
      refine WP.iloadN d8_52 rfl (pc' := 53) rfl ?_
      refine WP.iconst d8_53 (z := (1 : Int32)) rfl (pc' := 54) rfl ?_
      refine WP.isub d8_54 (pc' := 55) rfl ?_
      rw [show (((3 : Int32) - (1 : Int32)) : Int32) = (2 : Int32) from by decide]
      refine WP.aloadN d8_55 rfl rfl (pc' := 56) rfl ?_
      refine WP.getf (i := 2) (v := (.int (1 : Int32))) d8_56 (w21 hw) O_q rfl rfl (pc' := 59) rfl ?_
      refine WP.isub d8_59 (pc' := 60) rfl ?_
      rw [show (((2 : Int32) - (1 : Int32)) : Int32) = (1 : Int32) from by decide]
      exact WP.retI d8_60 rfl (by decide) (by decide) ⟨rfl, _, rfl, by omega, by omega, by refine ⟨?_, ?_, ?_, ?_⟩ <;> omega⟩
    exfalso; omega
  refine WP.iload d8_37 rfl (pc' := 39) rfl ?_
  refine WP.iconst d8_39 (z := (1 : Int32)) rfl (pc' := 40) rfl ?_
  refine WP.iadd d8_40 (pc' := 41) rfl ?_
  rw [show (((3 : Int32) + (1 : Int32)) : Int32) = (4 : Int32) from by decide]
  refine WP.istoreN d8_41 (pc' := 42) rfl (ls' := #[.val (.ref q), .val (.long t), .second, .val (.int (4 : Int32)), .val (.int (5 : Int32)), .val (.int (3 : Int32))]) rfl ?_
  refine WP.goto d8_42 (pc' := 49) (by decide) ?_
  refine WP.goto d8_49 (pc' := 11) (by decide) ?_
  refine WP.iloadN d8_11 rfl (pc' := 12) rfl ?_
  refine WP.iload d8_12 rfl (pc' := 14) rfl ?_
  refine WP.icmpGe d8_14 (tgt := 52) (by decide) (pc' := 17) rfl (fun c14 => ?_) (fun c14 => ?_)
  · exfalso; omega
  refine WP.iloadN d8_17 rfl (pc' := 18) rfl ?_
  refine WP.iload d8_18 rfl (pc' := 20) rfl ?_
  refine WP.iadd d8_20 (pc' := 21) rfl ?_
  rw [show (((4 : Int32) + (5 : Int32)) : Int32) = (9 : Int32) from by decide]
  refine WP.iconst d8_21 (z := (1 : Int32)) rfl (pc' := 22) rfl ?_
  refine WP.iushr d8_22 (pc' := 23) rfl ?_
  rw [show (ushr (9 : Int32) (1 : Int32)) = (4 : Int32) from by decide]
  refine WP.istore d8_23 (pc' := 25) rfl (ls' := #[.val (.ref q), .val (.long t), .second, .val (.int (4 : Int32)), .val (.int (5 : Int32)), .val (.int (4 : Int32))]) rfl ?_
  refine WP.aloadN d8_25 rfl rfl (pc' := 26) rfl ?_
  refine WP.getf (i := 0) (v := (.ref r)) d8_26 (w17 hw) O_q rfl rfl (pc' := 29) rfl ?_
  refine WP.iload d8_29 rfl (pc' := 31) rfl ?_
  refine WP.laload 4 d8_31 A_r (x := x4) rfl rfl (pc' := 32) rfl ?_
  refine WP.lloadN d8_32 rfl (pc' := 33) rfl ?_
  refine WP.lcmpGt d8_33 rfl d8_34 (tgt := 45) (by decide) (pc' := 37) rfl (fun c33 => ?_) (fun c33 => ?_)
  ·
    refine WP.iload d8_45 rfl (pc' := 47) rfl ?_
    refine WP.istore d8_47 (pc' := 49) rfl (ls' := #[.val (.ref q), .val (.long t), .second, .val (.int (4 : Int32)), .val (.int (4 : Int32)), .val (.int (4 : Int32))]) rfl ?_
    refine WP.goto d8_49 (pc' := 11) (by decide) ?_
    refine WP.iloadN d8_11 rfl (pc' := 12) rfl ?_
    refine WP.iload d8_12 rfl (pc' := 14) rfl ?_
    refine WP.icmpGe d8_14 (tgt := 52) (by decide) (pc' := 17) rfl (fun c14 => ?_) (fun c14 => ?_)
    ·
      refine WP.iloadN d8_52 rfl (pc' := 53) rfl ?_
      refine WP.iconst d8_53 (z := (1 : Int32)) rfl (pc' := 54) rfl ?_
      refine WP.isub d8_54 (pc' := 55) rfl ?_
      rw [show (((4 : Int32) - (1 : Int32)) : Int32) = (3 : Int32) from by decide]
      refine WP.aloadN d8_55 rfl rfl (pc' := 56) rfl ?_
      refine WP.getf (i := 2) (v := (.int (1 : Int32))) d8_56 (w21 hw) O_q rfl rfl (pc' := 59) rfl ?_
      refine WP.isub d8_59 (pc' := 60) rfl ?_
      rw [show (((3 : Int32) - (1 : Int32)) : Int32) = (2 : Int32) from by decide]
      exact WP.retI d8_60 rfl (by decide) (by decide) ⟨rfl, _, rfl, by omega, by omega, by refine ⟨?_, ?_, ?_, ?_⟩ <;> omega⟩
    exfalso; omega
  refine WP.iload d8_37 rfl (pc' := 39) rfl ?_
  refine WP.iconst d8_39 (z := (1 : Int32)) rfl (pc' := 40) rfl ?_
  refine WP.iadd d8_40 (pc' := 41) rfl ?_
  rw [show (((4 : Int32) + (1 : Int32)) : Int32) = (5 : Int32) from by decide]
  refine WP.istoreN d8_41 (pc' := 42) rfl (ls' := #[.val (.ref q), .val (.long t), .second, .val (.int (5 : Int32)), .val (.int (5 : Int32)), .val (.int (4 : Int32))]) rfl ?_
  refine WP.goto d8_42 (pc' := 49) (by decide) ?_
  refine WP.goto d8_49 (pc' := 11) (by decide) ?_
  refine WP.iloadN d8_11 rfl (pc' := 12) rfl ?_
  refine WP.iload d8_12 rfl (pc' := 14) rfl ?_
  refine WP.icmpGe d8_14 (tgt := 52) (by decide) (pc' := 17) rfl (fun c14 => ?_) (fun c14 => ?_)
  ·
    refine WP.iloadN d8_52 rfl (pc' := 53) rfl ?_
    refine WP.iconst d8_53 (z := (1 : Int32)) rfl (pc' := 54) rfl ?_
    refine WP.isub d8_54 (pc' := 55) rfl ?_
    rw [show (((5 : Int32) - (1 : Int32)) : Int32) = (4 : Int32) from by decide]
    refine WP.aloadN d8_55 rfl rfl (pc' := 56) rfl ?_
    refine WP.getf (i := 2) (v := (.int (1 : Int32))) d8_56 (w21 hw) O_q rfl rfl (pc' := 59) rfl ?_
    refine WP.isub d8_59 (pc' := 60) rfl ?_
    rw [show (((4 : Int32) - (1 : Int32)) : Int32) = (3 : Int32) from by decide]
    exact WP.retI d8_60 rfl (by decide) (by decide) ⟨rfl, _, rfl, by omega, by omega, by refine ⟨?_, ?_, ?_, ?_⟩ <;> omega⟩
  exfalso; omega
theorem law_173_0_0 {l : Launch} {Z : State} {a0 : Array Value} (hw : HW Z a0) {n0 : Nat} {h : Heap} (a t0 g : Int64) (m : Int32) (s : Addr) (x0 x1 x2 x3 x4 : Int64) (A_s : Av Z h s .long [(.long x0), (.long x1), (.long x2), (.long x3), (.long x4)]) (g_s : n0 ≤ s) (hs : x0.toInt < x1.toInt ∧ x1.toInt < x2.toInt ∧ x2.toInt < x3.toInt ∧ x3.toInt < x4.toInt) (t : Int64) : WP l B0 Z n0 (fun v h' => v = some (.int 1)) h 1 5 173 #[.val (.long a), .second, .val (.long t0), .second, .val (.long g), .second, .val (.int m), .val (.ref s), .val (.int (0 : Int32)), .val (.int (0 : Int32)), .val (.long t), .second, .unset, .unset, .unset] [] := by
  have k32_0 : (0 : Int32).toInt = 0 := by decide
  have k32_1 : (1 : Int32).toInt = 1 := by decide
  have k32_2 : (2 : Int32).toInt = 2 := by decide
  have k32_3 : (3 : Int32).toInt = 3 := by decide
  have k32_4 : (4 : Int32).toInt = 4 := by decide
  refine WP.newobj (lay := L_IG) (vs := [.null, .null, (.int 0), (.int 0)]) at_173 (w8 hw) (w9 hw) (w10 hw) (lay_IG hw) rfl (by decide) (by decide) (pc' := 176) rfl ?_
  intro q h1 eb_q g_q K2 O_q
  have lt_s_q : s < q := by rw [eb_q]; exact A_s.lt
  replace A_s := A_s.keep K2 own_nil
  refine WP.dup at_176 rfl (pc' := 177) rfl ?_
  refine WP.lloadN at_177 rfl (pc' := 178) rfl ?_
  have lts := A_s.lt
  have ltq := O_q.lt
  refine WP.callI (a := q) (y := (⟨"com/example/apportion/apportion/IdleGaps", "<init>", "(J)V"⟩ : MethodName)) (By := B2) (as := [(.long a)]) (rest := [(.ref q)]) at_178 (w11 hw) (w12 hw) (w10 hw) (w13 hw) rfl rfl (by decide) (ini_met hw q a g_q O_q) pd_3 rfl rfl rfl (by decide) (Nat.le_of_ble_eq_true rfl) (by decide) (by decide) (pc' := 181) rfl ?_
  rintro _ h3 ⟨rfl, r0, e0, y0, y1, y2, y3, es0, O_n, A_r0, A_e0, hes, g_r0, g_e0, hnd0, Kc, sz1, sz2, hfe⟩
  replace A_s := A_s.keep Kc (own_cons (by first | assumption | exact Ne.symm (by assumption) | exact Nat.ne_of_lt (by assumption) | exact Nat.ne_of_gt (by assumption)) own_nil)
  replace O_q := O_n
  have n_sr : s ≠ r0 := Nat.ne_of_lt (Nat.lt_of_lt_of_le lts sz1)
  have n_se : s ≠ e0 := Nat.ne_of_lt (Nat.lt_of_lt_of_le lts sz2)
  obtain ⟨n_qr, n_qe, n_re⟩ := id hnd0
  show WP _ _ _ _ _ _ _ _ _ _ [(.ref q)]
  refine WP.astore at_181 (pc' := 183) rfl rfl (ls' := #[.val (.long a), .second, .val (.long t0), .second, .val (.long g), .second, .val (.int m), .val (.ref s), .val (.int (0 : Int32)), .val (.int (0 : Int32)), .val (.long t), .second, .val (.ref q), .unset, .unset]) rfl ?_
  refine WP.aload at_183 rfl rfl (pc' := 185) rfl ?_
  refine WP.callV (a := q) (z := (⟨"com/example/apportion/apportion/IdleGaps", "clear", "()V"⟩ : MethodName)) (Cl := "com/example/apportion/apportion/IdleGaps") (y := (⟨"com/example/apportion/apportion/IdleGaps", "clear", "()V"⟩ : MethodName)) (By := B4) (as := []) (rest := []) at_185 (w26 hw) (w27 hw) (w29 hw) (w28 hw) (w10 hw) (w30 hw) rfl rfl (by decide) O_q.1 (clr_met hw q r0 e0 _ _ g_q O_q) pd_2 rfl rfl rfl (by decide) (Nat.le_of_ble_eq_true rfl) (by decide) (by decide) (pc' := 188) rfl ?_
  rintro _ h4 ⟨rfl, Kc2, O_n⟩
  replace A_s := A_s.keep Kc2 (own_cons (by first | assumption | exact Ne.symm (by assumption) | exact Nat.ne_of_lt (by assumption) | exact Nat.ne_of_gt (by assumption)) own_nil)
  replace O_q := O_n
  replace A_r0 := A_r0.keep Kc2 (own_cons (by first | assumption | exact Ne.symm (by assumption) | exact Nat.ne_of_lt (by assumption) | exact Nat.ne_of_gt (by assumption)) own_nil)
  replace A_e0 := A_e0.keep Kc2 (own_cons (by first | assumption | exact Ne.symm (by assumption) | exact Nat.ne_of_lt (by assumption) | exact Nat.ne_of_gt (by assumption)) own_nil)
  show WP _ _ _ _ _ _ _ _ _ _ []
  refine WP.iload at_188 rfl (pc' := 190) rfl ?_
  refine WP.ifLe at_190 (tgt := 210) (by decide) (pc' := 193) rfl (fun c190 => ?_) (fun c190 => ?_)
  ·
    refine WP.iload at_210 rfl (pc' := 212) rfl ?_
    refine WP.iconst at_212 (z := (1 : Int32)) rfl (pc' := 213) rfl ?_
    refine WP.icmpLe at_213 (tgt := 233) (by decide) (pc' := 216) rfl (fun c213 => ?_) (fun c213 => ?_)
    ·
      refine WP.iload at_233 rfl (pc' := 235) rfl ?_
      refine WP.iconst at_235 (z := (2 : Int32)) rfl (pc' := 236) rfl ?_
      refine WP.icmpLe at_236 (tgt := 256) (by decide) (pc' := 239) rfl (fun c236 => ?_) (fun c236 => ?_)
      ·
        refine WP.iload at_256 rfl (pc' := 258) rfl ?_
        refine WP.iconst at_258 (z := (3 : Int32)) rfl (pc' := 259) rfl ?_
        refine WP.icmpLe at_259 (tgt := 279) (by decide) (pc' := 262) rfl (fun c259 => ?_) (fun c259 => ?_)
        ·
          refine WP.iload at_279 rfl (pc' := 281) rfl ?_
          refine WP.iconst at_281 (z := (4 : Int32)) rfl (pc' := 282) rfl ?_
          refine WP.icmpLe at_282 (tgt := 302) (by decide) (pc' := 285) rfl (fun c282 => ?_) (fun c282 => ?_)
          ·
            refine WP.iload at_302 rfl (pc' := 304) rfl ?_
            refine WP.ifEq at_304 (tgt := 312) (by decide) (pc' := 307) rfl (fun c304 => ?_) (fun c304 => ?_)
            ·
              refine WP.iload at_312 rfl (pc' := 314) rfl ?_
              refine WP.ifEq at_314 (tgt := 321) (by decide) (pc' := 317) rfl (fun c314 => ?_) (fun c314 => ?_)
              ·
                refine WP.iconst at_321 (z := (0 : Int32)) rfl (pc' := 322) rfl ?_
                refine WP.istore at_322 (pc' := 324) rfl (ls' := #[.val (.long a), .second, .val (.long t0), .second, .val (.long g), .second, .val (.int m), .val (.ref s), .val (.int (0 : Int32)), .val (.int (0 : Int32)), .val (.long t), .second, .val (.ref q), .val (.int (0 : Int32)), .unset]) rfl ?_
                refine WP.aload at_324 rfl rfl (pc' := 326) rfl ?_
                refine WP.iconst at_326 (z := (0 : Int32)) rfl (pc' := 327) rfl ?_
                refine WP.iload at_327 rfl (pc' := 329) rfl ?_
                refine WP.iload at_329 rfl (pc' := 331) rfl ?_
                refine WP.lload at_331 rfl (pc' := 333) rfl ?_
                refine WP.callS (y := (⟨"com/example/apportion/apportion/IdleGapsFloorPinLaw", "in", "([JIIIJ)I"⟩ : MethodName)) (By := B7) (as := [(.ref s), (.int (0 : Int32)), (.int (0 : Int32)), (.int (0 : Int32)), (.long t)]) (rest := []) at_333 (w41 hw) (w42 hw) (w33 hw) (w43 hw) (by decide) (in_met hw s (0 : Int32) (0 : Int32) (0 : Int32) t _ 0 x0 A_s rfl rfl) pd_4 rfl rfl rfl (by decide) (Nat.le_of_ble_eq_true rfl) (by decide) (by decide) (pc' := 336) rfl ?_
                rintro _ _ ⟨rfl, c0, rfl, hc0⟩
                show WP _ _ _ _ _ _ _ _ _ _ [(.int c0)]
                refine WP.aload at_336 rfl rfl (pc' := 338) rfl ?_
                refine WP.iconst at_338 (z := (1 : Int32)) rfl (pc' := 339) rfl ?_
                refine WP.iload at_339 rfl (pc' := 341) rfl ?_
                refine WP.iload at_341 rfl (pc' := 343) rfl ?_
                refine WP.lload at_343 rfl (pc' := 345) rfl ?_
                refine WP.callS (y := (⟨"com/example/apportion/apportion/IdleGapsFloorPinLaw", "in", "([JIIIJ)I"⟩ : MethodName)) (By := B7) (as := [(.ref s), (.int (1 : Int32)), (.int (0 : Int32)), (.int (0 : Int32)), (.long t)]) (rest := [(.int c0)]) at_345 (w41 hw) (w42 hw) (w33 hw) (w43 hw) (by decide) (in_met hw s (1 : Int32) (0 : Int32) (0 : Int32) t _ 1 x1 A_s rfl rfl) pd_4 rfl rfl rfl (by decide) (Nat.le_of_ble_eq_true rfl) (by decide) (by decide) (pc' := 348) rfl ?_
                rintro _ _ ⟨rfl, c1, rfl, hc1⟩
                show WP _ _ _ _ _ _ _ _ _ _ [(.int c1), (.int c0)]
                refine WP.iadd at_348 (pc' := 349) rfl ?_
                refine WP.aload at_349 rfl rfl (pc' := 351) rfl ?_
                refine WP.iconst at_351 (z := (2 : Int32)) rfl (pc' := 352) rfl ?_
                refine WP.iload at_352 rfl (pc' := 354) rfl ?_
                refine WP.iload at_354 rfl (pc' := 356) rfl ?_
                refine WP.lload at_356 rfl (pc' := 358) rfl ?_
                refine WP.callS (y := (⟨"com/example/apportion/apportion/IdleGapsFloorPinLaw", "in", "([JIIIJ)I"⟩ : MethodName)) (By := B7) (as := [(.ref s), (.int (2 : Int32)), (.int (0 : Int32)), (.int (0 : Int32)), (.long t)]) (rest := [(.int (c0 + c1))]) at_358 (w41 hw) (w42 hw) (w33 hw) (w43 hw) (by decide) (in_met hw s (2 : Int32) (0 : Int32) (0 : Int32) t _ 2 x2 A_s rfl rfl) pd_4 rfl rfl rfl (by decide) (Nat.le_of_ble_eq_true rfl) (by decide) (by decide) (pc' := 361) rfl ?_
                rintro _ _ ⟨rfl, c2, rfl, hc2⟩
                show WP _ _ _ _ _ _ _ _ _ _ [(.int c2), (.int (c0 + c1))]
                refine WP.iadd at_361 (pc' := 362) rfl ?_
                refine WP.aload at_362 rfl rfl (pc' := 364) rfl ?_
                refine WP.iconst at_364 (z := (3 : Int32)) rfl (pc' := 365) rfl ?_
                refine WP.iload at_365 rfl (pc' := 367) rfl ?_
                refine WP.iload at_367 rfl (pc' := 369) rfl ?_
                refine WP.lload at_369 rfl (pc' := 371) rfl ?_
                refine WP.callS (y := (⟨"com/example/apportion/apportion/IdleGapsFloorPinLaw", "in", "([JIIIJ)I"⟩ : MethodName)) (By := B7) (as := [(.ref s), (.int (3 : Int32)), (.int (0 : Int32)), (.int (0 : Int32)), (.long t)]) (rest := [(.int ((c0 + c1) + c2))]) at_371 (w41 hw) (w42 hw) (w33 hw) (w43 hw) (by decide) (in_met hw s (3 : Int32) (0 : Int32) (0 : Int32) t _ 3 x3 A_s rfl rfl) pd_4 rfl rfl rfl (by decide) (Nat.le_of_ble_eq_true rfl) (by decide) (by decide) (pc' := 374) rfl ?_
                rintro _ _ ⟨rfl, c3, rfl, hc3⟩
                show WP _ _ _ _ _ _ _ _ _ _ [(.int c3), (.int ((c0 + c1) + c2))]
                refine WP.iadd at_374 (pc' := 375) rfl ?_
                refine WP.aload at_375 rfl rfl (pc' := 377) rfl ?_
                refine WP.iconst at_377 (z := (4 : Int32)) rfl (pc' := 378) rfl ?_
                refine WP.iload at_378 rfl (pc' := 380) rfl ?_
                refine WP.iload at_380 rfl (pc' := 382) rfl ?_
                refine WP.lload at_382 rfl (pc' := 384) rfl ?_
                refine WP.callS (y := (⟨"com/example/apportion/apportion/IdleGapsFloorPinLaw", "in", "([JIIIJ)I"⟩ : MethodName)) (By := B7) (as := [(.ref s), (.int (4 : Int32)), (.int (0 : Int32)), (.int (0 : Int32)), (.long t)]) (rest := [(.int (((c0 + c1) + c2) + c3))]) at_384 (w41 hw) (w42 hw) (w33 hw) (w43 hw) (by decide) (in_met hw s (4 : Int32) (0 : Int32) (0 : Int32) t _ 4 x4 A_s rfl rfl) pd_4 rfl rfl rfl (by decide) (Nat.le_of_ble_eq_true rfl) (by decide) (by decide) (pc' := 387) rfl ?_
                rintro _ _ ⟨rfl, c4, rfl, hc4⟩
                show WP _ _ _ _ _ _ _ _ _ _ [(.int c4), (.int (((c0 + c1) + c2) + c3))]
                refine WP.iadd at_387 (pc' := 388) rfl ?_
                refine WP.iconst at_388 (z := (1 : Int32)) rfl (pc' := 389) rfl ?_
                refine WP.isub at_389 (pc' := 390) rfl ?_
                obtain ⟨ex, e_ex⟩ : ∃ z, z = (((((c0 + c1) + c2) + c3) + c4) - (1 : Int32)) := ⟨_, rfl⟩
                rw [← e_ex]
                refine WP.istore at_390 (pc' := 392) rfl (ls' := #[.val (.long a), .second, .val (.long t0), .second, .val (.long g), .second, .val (.int m), .val (.ref s), .val (.int (0 : Int32)), .val (.int (0 : Int32)), .val (.long t), .second, .val (.ref q), .val (.int (0 : Int32)), .val (.int ex)]) rfl ?_
                have f1 : (c0 + c1).toInt = c0.toInt + c1.toInt := by rw [own_iadd] <;> omega
                have f2 : (c0 + c1 + c2).toInt = c0.toInt + c1.toInt + c2.toInt := by rw [own_iadd] <;> omega
                have f3 : (c0 + c1 + c2 + c3).toInt = c0.toInt + c1.toInt + c2.toInt + c3.toInt := by rw [own_iadd] <;> omega
                have f4 : (c0 + c1 + c2 + c3 + c4).toInt = c0.toInt + c1.toInt + c2.toInt + c3.toInt + c4.toInt := by rw [own_iadd] <;> omega
                have f5 : ex.toInt = c0.toInt + c1.toInt + c2.toInt + c3.toInt + c4.toInt - 1 := by rw [e_ex, own_isub] <;> omega
                clear f1 f2 f3 f4
                refine WP.aload at_392 rfl rfl (pc' := 394) rfl ?_
                refine WP.lload at_394 rfl (pc' := 396) rfl ?_
                refine WP.callV (a := q) (z := (⟨"com/example/apportion/apportion/IdleGaps", "floor", "(J)I"⟩ : MethodName)) (Cl := "com/example/apportion/apportion/IdleGaps") (y := (⟨"com/example/apportion/apportion/IdleGaps", "floor", "(J)I"⟩ : MethodName)) (By := B8) (as := [(.long t)]) (rest := []) at_396 (w44 hw) (w45 hw) (w47 hw) (w46 hw) (w10 hw) (w48 hw) rfl rfl (by decide) O_q.1 (flo_0_0 hw q r0 e0 t y0 y1 y2 y3 O_q A_r0 trivial) pd_5 rfl rfl rfl (by decide) (Nat.le_of_ble_eq_true rfl) (by decide) (by decide) (pc' := 399) rfl ?_
                rintro _ _ ⟨rfl, fr, rfl, hf1, hf2, -⟩
                show WP _ _ _ _ _ _ _ _ _ _ [(.int fr)]
                refine WP.iload at_399 rfl (pc' := 401) rfl ?_
                refine WP.icmpNe at_401 (tgt := 408) (by decide) (pc' := 404) rfl (fun c401 => ?_) (fun c401 => ?_)
                ·
                  refine WP.iconst at_408 (z := (0 : Int32)) rfl (pc' := 409) rfl ?_
                  exact WP.retN at_409 (t := .boolean) rfl (by simp) (by decide) (by decide) (by exfalso; omega)
                refine WP.iconst at_404 (z := (1 : Int32)) rfl (pc' := 405) rfl ?_
                refine WP.goto at_405 (pc' := 409) (by decide) ?_
                exact WP.retN at_409 (t := .boolean) rfl (by simp) (by decide) (by decide) own_q1
              exfalso; omega
            exfalso; omega
          exfalso; omega
        exfalso; omega
      exfalso; omega
    exfalso; omega
  exfalso; omega
theorem law_173_1_0 {l : Launch} {Z : State} {a0 : Array Value} (hw : HW Z a0) {n0 : Nat} {h : Heap} (a t0 g : Int64) (m : Int32) (s : Addr) (x0 x1 x2 x3 x4 : Int64) (A_s : Av Z h s .long [(.long x0), (.long x1), (.long x2), (.long x3), (.long x4)]) (g_s : n0 ≤ s) (hs : x0.toInt < x1.toInt ∧ x1.toInt < x2.toInt ∧ x2.toInt < x3.toInt ∧ x3.toInt < x4.toInt) (t : Int64) : WP l B0 Z n0 (fun v h' => v = some (.int 1)) h 1 5 173 #[.val (.long a), .second, .val (.long t0), .second, .val (.long g), .second, .val (.int m), .val (.ref s), .val (.int (1 : Int32)), .val (.int (0 : Int32)), .val (.long t), .second, .unset, .unset, .unset] [] := by
  have k32_0 : (0 : Int32).toInt = 0 := by decide
  have k32_1 : (1 : Int32).toInt = 1 := by decide
  have k32_2 : (2 : Int32).toInt = 2 := by decide
  have k32_3 : (3 : Int32).toInt = 3 := by decide
  have k32_4 : (4 : Int32).toInt = 4 := by decide
  refine WP.newobj (lay := L_IG) (vs := [.null, .null, (.int 0), (.int 0)]) at_173 (w8 hw) (w9 hw) (w10 hw) (lay_IG hw) rfl (by decide) (by decide) (pc' := 176) rfl ?_
  intro q h1 eb_q g_q K2 O_q
  have lt_s_q : s < q := by rw [eb_q]; exact A_s.lt
  replace A_s := A_s.keep K2 own_nil
  refine WP.dup at_176 rfl (pc' := 177) rfl ?_
  refine WP.lloadN at_177 rfl (pc' := 178) rfl ?_
  have lts := A_s.lt
  have ltq := O_q.lt
  refine WP.callI (a := q) (y := (⟨"com/example/apportion/apportion/IdleGaps", "<init>", "(J)V"⟩ : MethodName)) (By := B2) (as := [(.long a)]) (rest := [(.ref q)]) at_178 (w11 hw) (w12 hw) (w10 hw) (w13 hw) rfl rfl (by decide) (ini_met hw q a g_q O_q) pd_3 rfl rfl rfl (by decide) (Nat.le_of_ble_eq_true rfl) (by decide) (by decide) (pc' := 181) rfl ?_
  rintro _ h3 ⟨rfl, r0, e0, y0, y1, y2, y3, es0, O_n, A_r0, A_e0, hes, g_r0, g_e0, hnd0, Kc, sz1, sz2, hfe⟩
  replace A_s := A_s.keep Kc (own_cons (by first | assumption | exact Ne.symm (by assumption) | exact Nat.ne_of_lt (by assumption) | exact Nat.ne_of_gt (by assumption)) own_nil)
  replace O_q := O_n
  have n_sr : s ≠ r0 := Nat.ne_of_lt (Nat.lt_of_lt_of_le lts sz1)
  have n_se : s ≠ e0 := Nat.ne_of_lt (Nat.lt_of_lt_of_le lts sz2)
  obtain ⟨n_qr, n_qe, n_re⟩ := id hnd0
  show WP _ _ _ _ _ _ _ _ _ _ [(.ref q)]
  refine WP.astore at_181 (pc' := 183) rfl rfl (ls' := #[.val (.long a), .second, .val (.long t0), .second, .val (.long g), .second, .val (.int m), .val (.ref s), .val (.int (1 : Int32)), .val (.int (0 : Int32)), .val (.long t), .second, .val (.ref q), .unset, .unset]) rfl ?_
  refine WP.aload at_183 rfl rfl (pc' := 185) rfl ?_
  refine WP.callV (a := q) (z := (⟨"com/example/apportion/apportion/IdleGaps", "clear", "()V"⟩ : MethodName)) (Cl := "com/example/apportion/apportion/IdleGaps") (y := (⟨"com/example/apportion/apportion/IdleGaps", "clear", "()V"⟩ : MethodName)) (By := B4) (as := []) (rest := []) at_185 (w26 hw) (w27 hw) (w29 hw) (w28 hw) (w10 hw) (w30 hw) rfl rfl (by decide) O_q.1 (clr_met hw q r0 e0 _ _ g_q O_q) pd_2 rfl rfl rfl (by decide) (Nat.le_of_ble_eq_true rfl) (by decide) (by decide) (pc' := 188) rfl ?_
  rintro _ h4 ⟨rfl, Kc2, O_n⟩
  replace A_s := A_s.keep Kc2 (own_cons (by first | assumption | exact Ne.symm (by assumption) | exact Nat.ne_of_lt (by assumption) | exact Nat.ne_of_gt (by assumption)) own_nil)
  replace O_q := O_n
  replace A_r0 := A_r0.keep Kc2 (own_cons (by first | assumption | exact Ne.symm (by assumption) | exact Nat.ne_of_lt (by assumption) | exact Nat.ne_of_gt (by assumption)) own_nil)
  replace A_e0 := A_e0.keep Kc2 (own_cons (by first | assumption | exact Ne.symm (by assumption) | exact Nat.ne_of_lt (by assumption) | exact Nat.ne_of_gt (by assumption)) own_nil)
  show WP _ _ _ _ _ _ _ _ _ _ []
  refine WP.iload at_188 rfl (pc' := 190) rfl ?_
  refine WP.ifLe at_190 (tgt := 210) (by decide) (pc' := 193) rfl (fun c190 => ?_) (fun c190 => ?_)
  · exfalso; omega
  refine WP.aload at_193 rfl rfl (pc' := 195) rfl ?_
  refine WP.aload at_195 rfl rfl (pc' := 197) rfl ?_
  refine WP.iconst at_197 (z := (0 : Int32)) rfl (pc' := 198) rfl ?_
  refine WP.laload 0 at_198 A_s (x := x0) rfl rfl (pc' := 199) rfl ?_
  refine WP.aload at_199 rfl rfl (pc' := 201) rfl ?_
  refine WP.iconst at_201 (z := (0 : Int32)) rfl (pc' := 202) rfl ?_
  refine WP.iload at_202 rfl (pc' := 204) rfl ?_
  refine WP.callS (y := (⟨"com/example/apportion/apportion/IdleGapsFloorPinLaw", "endOf", "([JII)J"⟩ : MethodName)) (By := B5) (as := [(.ref s), (.int (0 : Int32)), (.int (1 : Int32))]) (rest := [(.long x0), (.ref q)]) at_204 (w31 hw) (w32 hw) (w33 hw) (w34 hw) (by decide) (end_met hw s (0 : Int32) (1 : Int32) _ 0 x0 A_s rfl rfl) pd_6 rfl rfl rfl (by decide) (Nat.le_of_ble_eq_true rfl) (by decide) (by decide) (pc' := 207) rfl ?_
  rintro _ _ ⟨rfl, z0, rfl⟩
  show WP _ _ _ _ _ _ _ _ _ _ [(.long z0), (.long x0), (.ref q)]
  refine WP.callV (a := q) (z := (⟨"com/example/apportion/apportion/IdleGaps", "append", "(JJ)V"⟩ : MethodName)) (Cl := "com/example/apportion/apportion/IdleGaps") (y := (⟨"com/example/apportion/apportion/IdleGaps", "append", "(JJ)V"⟩ : MethodName)) (By := B6) (as := [(.long x0), (.long z0)]) (rest := []) at_207 (w35 hw) (w36 hw) (w38 hw) (w37 hw) (w10 hw) (w39 hw) rfl rfl (by decide) O_q.1 (app0_met hw q r0 e0 x0 z0 y0 y1 y2 y3 _ g_q g_r0 g_e0 O_q A_r0 A_e0 hes hfe hnd0) pd_7 rfl rfl rfl (by decide) (Nat.le_of_ble_eq_true rfl) (by decide) (by decide) (pc' := 210) rfl ?_
  rintro _ h6 ⟨rfl, es1, O_n, A_n, A_m, hes, hfe, Ka0⟩
  replace A_s := A_s.keep Ka0 (own_cons (by first | assumption | exact Ne.symm (by assumption) | exact Nat.ne_of_lt (by assumption) | exact Nat.ne_of_gt (by assumption)) (own_cons (by first | assumption | exact Ne.symm (by assumption) | exact Nat.ne_of_lt (by assumption) | exact Nat.ne_of_gt (by assumption)) (own_cons (by first | assumption | exact Ne.symm (by assumption) | exact Nat.ne_of_lt (by assumption) | exact Nat.ne_of_gt (by assumption)) own_nil)))
  replace O_q := O_n
  replace A_r0 := A_n
  replace A_e0 := A_m
  show WP _ _ _ _ _ _ _ _ _ _ []
  refine WP.iload at_210 rfl (pc' := 212) rfl ?_
  refine WP.iconst at_212 (z := (1 : Int32)) rfl (pc' := 213) rfl ?_
  refine WP.icmpLe at_213 (tgt := 233) (by decide) (pc' := 216) rfl (fun c213 => ?_) (fun c213 => ?_)
  ·
    refine WP.iload at_233 rfl (pc' := 235) rfl ?_
    refine WP.iconst at_235 (z := (2 : Int32)) rfl (pc' := 236) rfl ?_
    refine WP.icmpLe at_236 (tgt := 256) (by decide) (pc' := 239) rfl (fun c236 => ?_) (fun c236 => ?_)
    ·
      refine WP.iload at_256 rfl (pc' := 258) rfl ?_
      refine WP.iconst at_258 (z := (3 : Int32)) rfl (pc' := 259) rfl ?_
      refine WP.icmpLe at_259 (tgt := 279) (by decide) (pc' := 262) rfl (fun c259 => ?_) (fun c259 => ?_)
      ·
        refine WP.iload at_279 rfl (pc' := 281) rfl ?_
        refine WP.iconst at_281 (z := (4 : Int32)) rfl (pc' := 282) rfl ?_
        refine WP.icmpLe at_282 (tgt := 302) (by decide) (pc' := 285) rfl (fun c282 => ?_) (fun c282 => ?_)
        ·
          refine WP.iload at_302 rfl (pc' := 304) rfl ?_
          refine WP.ifEq at_304 (tgt := 312) (by decide) (pc' := 307) rfl (fun c304 => ?_) (fun c304 => ?_)
          ·
            refine WP.iload at_312 rfl (pc' := 314) rfl ?_
            refine WP.ifEq at_314 (tgt := 321) (by decide) (pc' := 317) rfl (fun c314 => ?_) (fun c314 => ?_)
            ·
              refine WP.iconst at_321 (z := (0 : Int32)) rfl (pc' := 322) rfl ?_
              refine WP.istore at_322 (pc' := 324) rfl (ls' := #[.val (.long a), .second, .val (.long t0), .second, .val (.long g), .second, .val (.int m), .val (.ref s), .val (.int (1 : Int32)), .val (.int (0 : Int32)), .val (.long t), .second, .val (.ref q), .val (.int (0 : Int32)), .unset]) rfl ?_
              refine WP.aload at_324 rfl rfl (pc' := 326) rfl ?_
              refine WP.iconst at_326 (z := (0 : Int32)) rfl (pc' := 327) rfl ?_
              refine WP.iload at_327 rfl (pc' := 329) rfl ?_
              refine WP.iload at_329 rfl (pc' := 331) rfl ?_
              refine WP.lload at_331 rfl (pc' := 333) rfl ?_
              refine WP.callS (y := (⟨"com/example/apportion/apportion/IdleGapsFloorPinLaw", "in", "([JIIIJ)I"⟩ : MethodName)) (By := B7) (as := [(.ref s), (.int (0 : Int32)), (.int (0 : Int32)), (.int (1 : Int32)), (.long t)]) (rest := []) at_333 (w41 hw) (w42 hw) (w33 hw) (w43 hw) (by decide) (in_met hw s (0 : Int32) (0 : Int32) (1 : Int32) t _ 0 x0 A_s rfl rfl) pd_4 rfl rfl rfl (by decide) (Nat.le_of_ble_eq_true rfl) (by decide) (by decide) (pc' := 336) rfl ?_
              rintro _ _ ⟨rfl, c0, rfl, hc0⟩
              show WP _ _ _ _ _ _ _ _ _ _ [(.int c0)]
              refine WP.aload at_336 rfl rfl (pc' := 338) rfl ?_
              refine WP.iconst at_338 (z := (1 : Int32)) rfl (pc' := 339) rfl ?_
              refine WP.iload at_339 rfl (pc' := 341) rfl ?_
              refine WP.iload at_341 rfl (pc' := 343) rfl ?_
              refine WP.lload at_343 rfl (pc' := 345) rfl ?_
              refine WP.callS (y := (⟨"com/example/apportion/apportion/IdleGapsFloorPinLaw", "in", "([JIIIJ)I"⟩ : MethodName)) (By := B7) (as := [(.ref s), (.int (1 : Int32)), (.int (0 : Int32)), (.int (1 : Int32)), (.long t)]) (rest := [(.int c0)]) at_345 (w41 hw) (w42 hw) (w33 hw) (w43 hw) (by decide) (in_met hw s (1 : Int32) (0 : Int32) (1 : Int32) t _ 1 x1 A_s rfl rfl) pd_4 rfl rfl rfl (by decide) (Nat.le_of_ble_eq_true rfl) (by decide) (by decide) (pc' := 348) rfl ?_
              rintro _ _ ⟨rfl, c1, rfl, hc1⟩
              show WP _ _ _ _ _ _ _ _ _ _ [(.int c1), (.int c0)]
              refine WP.iadd at_348 (pc' := 349) rfl ?_
              refine WP.aload at_349 rfl rfl (pc' := 351) rfl ?_
              refine WP.iconst at_351 (z := (2 : Int32)) rfl (pc' := 352) rfl ?_
              refine WP.iload at_352 rfl (pc' := 354) rfl ?_
              refine WP.iload at_354 rfl (pc' := 356) rfl ?_
              refine WP.lload at_356 rfl (pc' := 358) rfl ?_
              refine WP.callS (y := (⟨"com/example/apportion/apportion/IdleGapsFloorPinLaw", "in", "([JIIIJ)I"⟩ : MethodName)) (By := B7) (as := [(.ref s), (.int (2 : Int32)), (.int (0 : Int32)), (.int (1 : Int32)), (.long t)]) (rest := [(.int (c0 + c1))]) at_358 (w41 hw) (w42 hw) (w33 hw) (w43 hw) (by decide) (in_met hw s (2 : Int32) (0 : Int32) (1 : Int32) t _ 2 x2 A_s rfl rfl) pd_4 rfl rfl rfl (by decide) (Nat.le_of_ble_eq_true rfl) (by decide) (by decide) (pc' := 361) rfl ?_
              rintro _ _ ⟨rfl, c2, rfl, hc2⟩
              show WP _ _ _ _ _ _ _ _ _ _ [(.int c2), (.int (c0 + c1))]
              refine WP.iadd at_361 (pc' := 362) rfl ?_
              refine WP.aload at_362 rfl rfl (pc' := 364) rfl ?_
              refine WP.iconst at_364 (z := (3 : Int32)) rfl (pc' := 365) rfl ?_
              refine WP.iload at_365 rfl (pc' := 367) rfl ?_
              refine WP.iload at_367 rfl (pc' := 369) rfl ?_
              refine WP.lload at_369 rfl (pc' := 371) rfl ?_
              refine WP.callS (y := (⟨"com/example/apportion/apportion/IdleGapsFloorPinLaw", "in", "([JIIIJ)I"⟩ : MethodName)) (By := B7) (as := [(.ref s), (.int (3 : Int32)), (.int (0 : Int32)), (.int (1 : Int32)), (.long t)]) (rest := [(.int ((c0 + c1) + c2))]) at_371 (w41 hw) (w42 hw) (w33 hw) (w43 hw) (by decide) (in_met hw s (3 : Int32) (0 : Int32) (1 : Int32) t _ 3 x3 A_s rfl rfl) pd_4 rfl rfl rfl (by decide) (Nat.le_of_ble_eq_true rfl) (by decide) (by decide) (pc' := 374) rfl ?_
              rintro _ _ ⟨rfl, c3, rfl, hc3⟩
              show WP _ _ _ _ _ _ _ _ _ _ [(.int c3), (.int ((c0 + c1) + c2))]
              refine WP.iadd at_374 (pc' := 375) rfl ?_
              refine WP.aload at_375 rfl rfl (pc' := 377) rfl ?_
              refine WP.iconst at_377 (z := (4 : Int32)) rfl (pc' := 378) rfl ?_
              refine WP.iload at_378 rfl (pc' := 380) rfl ?_
              refine WP.iload at_380 rfl (pc' := 382) rfl ?_
              refine WP.lload at_382 rfl (pc' := 384) rfl ?_
              refine WP.callS (y := (⟨"com/example/apportion/apportion/IdleGapsFloorPinLaw", "in", "([JIIIJ)I"⟩ : MethodName)) (By := B7) (as := [(.ref s), (.int (4 : Int32)), (.int (0 : Int32)), (.int (1 : Int32)), (.long t)]) (rest := [(.int (((c0 + c1) + c2) + c3))]) at_384 (w41 hw) (w42 hw) (w33 hw) (w43 hw) (by decide) (in_met hw s (4 : Int32) (0 : Int32) (1 : Int32) t _ 4 x4 A_s rfl rfl) pd_4 rfl rfl rfl (by decide) (Nat.le_of_ble_eq_true rfl) (by decide) (by decide) (pc' := 387) rfl ?_
              rintro _ _ ⟨rfl, c4, rfl, hc4⟩
              show WP _ _ _ _ _ _ _ _ _ _ [(.int c4), (.int (((c0 + c1) + c2) + c3))]
              refine WP.iadd at_387 (pc' := 388) rfl ?_
              refine WP.iconst at_388 (z := (1 : Int32)) rfl (pc' := 389) rfl ?_
              refine WP.isub at_389 (pc' := 390) rfl ?_
              obtain ⟨ex, e_ex⟩ : ∃ z, z = (((((c0 + c1) + c2) + c3) + c4) - (1 : Int32)) := ⟨_, rfl⟩
              rw [← e_ex]
              refine WP.istore at_390 (pc' := 392) rfl (ls' := #[.val (.long a), .second, .val (.long t0), .second, .val (.long g), .second, .val (.int m), .val (.ref s), .val (.int (1 : Int32)), .val (.int (0 : Int32)), .val (.long t), .second, .val (.ref q), .val (.int (0 : Int32)), .val (.int ex)]) rfl ?_
              have f1 : (c0 + c1).toInt = c0.toInt + c1.toInt := by rw [own_iadd] <;> omega
              have f2 : (c0 + c1 + c2).toInt = c0.toInt + c1.toInt + c2.toInt := by rw [own_iadd] <;> omega
              have f3 : (c0 + c1 + c2 + c3).toInt = c0.toInt + c1.toInt + c2.toInt + c3.toInt := by rw [own_iadd] <;> omega
              have f4 : (c0 + c1 + c2 + c3 + c4).toInt = c0.toInt + c1.toInt + c2.toInt + c3.toInt + c4.toInt := by rw [own_iadd] <;> omega
              have f5 : ex.toInt = c0.toInt + c1.toInt + c2.toInt + c3.toInt + c4.toInt - 1 := by rw [e_ex, own_isub] <;> omega
              clear f1 f2 f3 f4
              refine WP.aload at_392 rfl rfl (pc' := 394) rfl ?_
              refine WP.lload at_394 rfl (pc' := 396) rfl ?_
              refine WP.callV (a := q) (z := (⟨"com/example/apportion/apportion/IdleGaps", "floor", "(J)I"⟩ : MethodName)) (Cl := "com/example/apportion/apportion/IdleGaps") (y := (⟨"com/example/apportion/apportion/IdleGaps", "floor", "(J)I"⟩ : MethodName)) (By := B8) (as := [(.long t)]) (rest := []) at_396 (w44 hw) (w45 hw) (w47 hw) (w46 hw) (w10 hw) (w48 hw) rfl rfl (by decide) O_q.1 (flo_0_1 hw q r0 e0 t x0 y1 y2 y3 O_q A_r0 trivial) pd_5 rfl rfl rfl (by decide) (Nat.le_of_ble_eq_true rfl) (by decide) (by decide) (pc' := 399) rfl ?_
              rintro _ _ ⟨rfl, fr, rfl, hf1, hf2, hf10⟩
              show WP _ _ _ _ _ _ _ _ _ _ [(.int fr)]
              refine WP.iload at_399 rfl (pc' := 401) rfl ?_
              refine WP.icmpNe at_401 (tgt := 408) (by decide) (pc' := 404) rfl (fun c401 => ?_) (fun c401 => ?_)
              ·
                refine WP.iconst at_408 (z := (0 : Int32)) rfl (pc' := 409) rfl ?_
                exact WP.retN at_409 (t := .boolean) rfl (by simp) (by decide) (by decide) (by exfalso; omega)
              refine WP.iconst at_404 (z := (1 : Int32)) rfl (pc' := 405) rfl ?_
              refine WP.goto at_405 (pc' := 409) (by decide) ?_
              exact WP.retN at_409 (t := .boolean) rfl (by simp) (by decide) (by decide) own_q1
            exfalso; omega
          exfalso; omega
        exfalso; omega
      exfalso; omega
    exfalso; omega
  exfalso; omega
theorem law_173_1_1 {l : Launch} {Z : State} {a0 : Array Value} (hw : HW Z a0) {n0 : Nat} {h : Heap} (a t0 g : Int64) (m : Int32) (s : Addr) (x0 x1 x2 x3 x4 : Int64) (A_s : Av Z h s .long [(.long x0), (.long x1), (.long x2), (.long x3), (.long x4)]) (g_s : n0 ≤ s) (hs : x0.toInt < x1.toInt ∧ x1.toInt < x2.toInt ∧ x2.toInt < x3.toInt ∧ x3.toInt < x4.toInt) (t : Int64) : WP l B0 Z n0 (fun v h' => v = some (.int 1)) h 1 5 173 #[.val (.long a), .second, .val (.long t0), .second, .val (.long g), .second, .val (.int m), .val (.ref s), .val (.int (1 : Int32)), .val (.int (1 : Int32)), .val (.long t), .second, .unset, .unset, .unset] [] := by
  have k32_0 : (0 : Int32).toInt = 0 := by decide
  have k32_1 : (1 : Int32).toInt = 1 := by decide
  have k32_2 : (2 : Int32).toInt = 2 := by decide
  have k32_3 : (3 : Int32).toInt = 3 := by decide
  have k32_4 : (4 : Int32).toInt = 4 := by decide
  refine WP.newobj (lay := L_IG) (vs := [.null, .null, (.int 0), (.int 0)]) at_173 (w8 hw) (w9 hw) (w10 hw) (lay_IG hw) rfl (by decide) (by decide) (pc' := 176) rfl ?_
  intro q h1 eb_q g_q K2 O_q
  have lt_s_q : s < q := by rw [eb_q]; exact A_s.lt
  replace A_s := A_s.keep K2 own_nil
  refine WP.dup at_176 rfl (pc' := 177) rfl ?_
  refine WP.lloadN at_177 rfl (pc' := 178) rfl ?_
  have lts := A_s.lt
  have ltq := O_q.lt
  refine WP.callI (a := q) (y := (⟨"com/example/apportion/apportion/IdleGaps", "<init>", "(J)V"⟩ : MethodName)) (By := B2) (as := [(.long a)]) (rest := [(.ref q)]) at_178 (w11 hw) (w12 hw) (w10 hw) (w13 hw) rfl rfl (by decide) (ini_met hw q a g_q O_q) pd_3 rfl rfl rfl (by decide) (Nat.le_of_ble_eq_true rfl) (by decide) (by decide) (pc' := 181) rfl ?_
  rintro _ h3 ⟨rfl, r0, e0, y0, y1, y2, y3, es0, O_n, A_r0, A_e0, hes, g_r0, g_e0, hnd0, Kc, sz1, sz2, hfe⟩
  replace A_s := A_s.keep Kc (own_cons (by first | assumption | exact Ne.symm (by assumption) | exact Nat.ne_of_lt (by assumption) | exact Nat.ne_of_gt (by assumption)) own_nil)
  replace O_q := O_n
  have n_sr : s ≠ r0 := Nat.ne_of_lt (Nat.lt_of_lt_of_le lts sz1)
  have n_se : s ≠ e0 := Nat.ne_of_lt (Nat.lt_of_lt_of_le lts sz2)
  obtain ⟨n_qr, n_qe, n_re⟩ := id hnd0
  show WP _ _ _ _ _ _ _ _ _ _ [(.ref q)]
  refine WP.astore at_181 (pc' := 183) rfl rfl (ls' := #[.val (.long a), .second, .val (.long t0), .second, .val (.long g), .second, .val (.int m), .val (.ref s), .val (.int (1 : Int32)), .val (.int (1 : Int32)), .val (.long t), .second, .val (.ref q), .unset, .unset]) rfl ?_
  refine WP.aload at_183 rfl rfl (pc' := 185) rfl ?_
  refine WP.callV (a := q) (z := (⟨"com/example/apportion/apportion/IdleGaps", "clear", "()V"⟩ : MethodName)) (Cl := "com/example/apportion/apportion/IdleGaps") (y := (⟨"com/example/apportion/apportion/IdleGaps", "clear", "()V"⟩ : MethodName)) (By := B4) (as := []) (rest := []) at_185 (w26 hw) (w27 hw) (w29 hw) (w28 hw) (w10 hw) (w30 hw) rfl rfl (by decide) O_q.1 (clr_met hw q r0 e0 _ _ g_q O_q) pd_2 rfl rfl rfl (by decide) (Nat.le_of_ble_eq_true rfl) (by decide) (by decide) (pc' := 188) rfl ?_
  rintro _ h4 ⟨rfl, Kc2, O_n⟩
  replace A_s := A_s.keep Kc2 (own_cons (by first | assumption | exact Ne.symm (by assumption) | exact Nat.ne_of_lt (by assumption) | exact Nat.ne_of_gt (by assumption)) own_nil)
  replace O_q := O_n
  replace A_r0 := A_r0.keep Kc2 (own_cons (by first | assumption | exact Ne.symm (by assumption) | exact Nat.ne_of_lt (by assumption) | exact Nat.ne_of_gt (by assumption)) own_nil)
  replace A_e0 := A_e0.keep Kc2 (own_cons (by first | assumption | exact Ne.symm (by assumption) | exact Nat.ne_of_lt (by assumption) | exact Nat.ne_of_gt (by assumption)) own_nil)
  show WP _ _ _ _ _ _ _ _ _ _ []
  refine WP.iload at_188 rfl (pc' := 190) rfl ?_
  refine WP.ifLe at_190 (tgt := 210) (by decide) (pc' := 193) rfl (fun c190 => ?_) (fun c190 => ?_)
  · exfalso; omega
  refine WP.aload at_193 rfl rfl (pc' := 195) rfl ?_
  refine WP.aload at_195 rfl rfl (pc' := 197) rfl ?_
  refine WP.iconst at_197 (z := (0 : Int32)) rfl (pc' := 198) rfl ?_
  refine WP.laload 0 at_198 A_s (x := x0) rfl rfl (pc' := 199) rfl ?_
  refine WP.aload at_199 rfl rfl (pc' := 201) rfl ?_
  refine WP.iconst at_201 (z := (0 : Int32)) rfl (pc' := 202) rfl ?_
  refine WP.iload at_202 rfl (pc' := 204) rfl ?_
  refine WP.callS (y := (⟨"com/example/apportion/apportion/IdleGapsFloorPinLaw", "endOf", "([JII)J"⟩ : MethodName)) (By := B5) (as := [(.ref s), (.int (0 : Int32)), (.int (1 : Int32))]) (rest := [(.long x0), (.ref q)]) at_204 (w31 hw) (w32 hw) (w33 hw) (w34 hw) (by decide) (end_met hw s (0 : Int32) (1 : Int32) _ 0 x0 A_s rfl rfl) pd_6 rfl rfl rfl (by decide) (Nat.le_of_ble_eq_true rfl) (by decide) (by decide) (pc' := 207) rfl ?_
  rintro _ _ ⟨rfl, z0, rfl⟩
  show WP _ _ _ _ _ _ _ _ _ _ [(.long z0), (.long x0), (.ref q)]
  refine WP.callV (a := q) (z := (⟨"com/example/apportion/apportion/IdleGaps", "append", "(JJ)V"⟩ : MethodName)) (Cl := "com/example/apportion/apportion/IdleGaps") (y := (⟨"com/example/apportion/apportion/IdleGaps", "append", "(JJ)V"⟩ : MethodName)) (By := B6) (as := [(.long x0), (.long z0)]) (rest := []) at_207 (w35 hw) (w36 hw) (w38 hw) (w37 hw) (w10 hw) (w39 hw) rfl rfl (by decide) O_q.1 (app0_met hw q r0 e0 x0 z0 y0 y1 y2 y3 _ g_q g_r0 g_e0 O_q A_r0 A_e0 hes hfe hnd0) pd_7 rfl rfl rfl (by decide) (Nat.le_of_ble_eq_true rfl) (by decide) (by decide) (pc' := 210) rfl ?_
  rintro _ h6 ⟨rfl, es1, O_n, A_n, A_m, hes, hfe, Ka0⟩
  replace A_s := A_s.keep Ka0 (own_cons (by first | assumption | exact Ne.symm (by assumption) | exact Nat.ne_of_lt (by assumption) | exact Nat.ne_of_gt (by assumption)) (own_cons (by first | assumption | exact Ne.symm (by assumption) | exact Nat.ne_of_lt (by assumption) | exact Nat.ne_of_gt (by assumption)) (own_cons (by first | assumption | exact Ne.symm (by assumption) | exact Nat.ne_of_lt (by assumption) | exact Nat.ne_of_gt (by assumption)) own_nil)))
  replace O_q := O_n
  replace A_r0 := A_n
  replace A_e0 := A_m
  show WP _ _ _ _ _ _ _ _ _ _ []
  refine WP.iload at_210 rfl (pc' := 212) rfl ?_
  refine WP.iconst at_212 (z := (1 : Int32)) rfl (pc' := 213) rfl ?_
  refine WP.icmpLe at_213 (tgt := 233) (by decide) (pc' := 216) rfl (fun c213 => ?_) (fun c213 => ?_)
  ·
    refine WP.iload at_233 rfl (pc' := 235) rfl ?_
    refine WP.iconst at_235 (z := (2 : Int32)) rfl (pc' := 236) rfl ?_
    refine WP.icmpLe at_236 (tgt := 256) (by decide) (pc' := 239) rfl (fun c236 => ?_) (fun c236 => ?_)
    ·
      refine WP.iload at_256 rfl (pc' := 258) rfl ?_
      refine WP.iconst at_258 (z := (3 : Int32)) rfl (pc' := 259) rfl ?_
      refine WP.icmpLe at_259 (tgt := 279) (by decide) (pc' := 262) rfl (fun c259 => ?_) (fun c259 => ?_)
      ·
        refine WP.iload at_279 rfl (pc' := 281) rfl ?_
        refine WP.iconst at_281 (z := (4 : Int32)) rfl (pc' := 282) rfl ?_
        refine WP.icmpLe at_282 (tgt := 302) (by decide) (pc' := 285) rfl (fun c282 => ?_) (fun c282 => ?_)
        ·
          refine WP.iload at_302 rfl (pc' := 304) rfl ?_
          refine WP.ifEq at_304 (tgt := 312) (by decide) (pc' := 307) rfl (fun c304 => ?_) (fun c304 => ?_)
          · exfalso; omega
          refine WP.aload at_307 rfl rfl (pc' := 309) rfl ?_
          refine WP.callV (a := q) (z := (⟨"com/example/apportion/apportion/IdleGaps", "dropFirst", "()V"⟩ : MethodName)) (Cl := "com/example/apportion/apportion/IdleGaps") (y := (⟨"com/example/apportion/apportion/IdleGaps", "dropFirst", "()V"⟩ : MethodName)) (By := B9) (as := []) (rest := []) at_309 (w49 hw) (w50 hw) (w52 hw) (w51 hw) (w10 hw) (w53 hw) rfl rfl (by decide) O_q.1 (drp_met hw q r0 e0 _ g_q O_q) pd_2 rfl rfl rfl (by decide) (Nat.le_of_ble_eq_true rfl) (by decide) (by decide) (pc' := 312) rfl ?_
          rintro _ h7 ⟨rfl, Kd, O_n⟩
          replace A_s := A_s.keep Kd (own_cons (by first | assumption | exact Ne.symm (by assumption) | exact Nat.ne_of_lt (by assumption) | exact Nat.ne_of_gt (by assumption)) own_nil)
          replace O_q := O_n
          replace A_r0 := A_r0.keep Kd (own_cons (by first | assumption | exact Ne.symm (by assumption) | exact Nat.ne_of_lt (by assumption) | exact Nat.ne_of_gt (by assumption)) own_nil)
          show WP _ _ _ _ _ _ _ _ _ _ []
          refine WP.iload at_312 rfl (pc' := 314) rfl ?_
          refine WP.ifEq at_314 (tgt := 321) (by decide) (pc' := 317) rfl (fun c314 => ?_) (fun c314 => ?_)
          · exfalso; omega
          refine WP.iconst at_317 (z := (1 : Int32)) rfl (pc' := 318) rfl ?_
          refine WP.goto at_318 (pc' := 322) (by decide) ?_
          refine WP.istore at_322 (pc' := 324) rfl (ls' := #[.val (.long a), .second, .val (.long t0), .second, .val (.long g), .second, .val (.int m), .val (.ref s), .val (.int (1 : Int32)), .val (.int (1 : Int32)), .val (.long t), .second, .val (.ref q), .val (.int (1 : Int32)), .unset]) rfl ?_
          refine WP.aload at_324 rfl rfl (pc' := 326) rfl ?_
          refine WP.iconst at_326 (z := (0 : Int32)) rfl (pc' := 327) rfl ?_
          refine WP.iload at_327 rfl (pc' := 329) rfl ?_
          refine WP.iload at_329 rfl (pc' := 331) rfl ?_
          refine WP.lload at_331 rfl (pc' := 333) rfl ?_
          refine WP.callS (y := (⟨"com/example/apportion/apportion/IdleGapsFloorPinLaw", "in", "([JIIIJ)I"⟩ : MethodName)) (By := B7) (as := [(.ref s), (.int (0 : Int32)), (.int (1 : Int32)), (.int (1 : Int32)), (.long t)]) (rest := []) at_333 (w41 hw) (w42 hw) (w33 hw) (w43 hw) (by decide) (in_met hw s (0 : Int32) (1 : Int32) (1 : Int32) t _ 0 x0 A_s rfl rfl) pd_4 rfl rfl rfl (by decide) (Nat.le_of_ble_eq_true rfl) (by decide) (by decide) (pc' := 336) rfl ?_
          rintro _ _ ⟨rfl, c0, rfl, hc0⟩
          show WP _ _ _ _ _ _ _ _ _ _ [(.int c0)]
          refine WP.aload at_336 rfl rfl (pc' := 338) rfl ?_
          refine WP.iconst at_338 (z := (1 : Int32)) rfl (pc' := 339) rfl ?_
          refine WP.iload at_339 rfl (pc' := 341) rfl ?_
          refine WP.iload at_341 rfl (pc' := 343) rfl ?_
          refine WP.lload at_343 rfl (pc' := 345) rfl ?_
          refine WP.callS (y := (⟨"com/example/apportion/apportion/IdleGapsFloorPinLaw", "in", "([JIIIJ)I"⟩ : MethodName)) (By := B7) (as := [(.ref s), (.int (1 : Int32)), (.int (1 : Int32)), (.int (1 : Int32)), (.long t)]) (rest := [(.int c0)]) at_345 (w41 hw) (w42 hw) (w33 hw) (w43 hw) (by decide) (in_met hw s (1 : Int32) (1 : Int32) (1 : Int32) t _ 1 x1 A_s rfl rfl) pd_4 rfl rfl rfl (by decide) (Nat.le_of_ble_eq_true rfl) (by decide) (by decide) (pc' := 348) rfl ?_
          rintro _ _ ⟨rfl, c1, rfl, hc1⟩
          show WP _ _ _ _ _ _ _ _ _ _ [(.int c1), (.int c0)]
          refine WP.iadd at_348 (pc' := 349) rfl ?_
          refine WP.aload at_349 rfl rfl (pc' := 351) rfl ?_
          refine WP.iconst at_351 (z := (2 : Int32)) rfl (pc' := 352) rfl ?_
          refine WP.iload at_352 rfl (pc' := 354) rfl ?_
          refine WP.iload at_354 rfl (pc' := 356) rfl ?_
          refine WP.lload at_356 rfl (pc' := 358) rfl ?_
          refine WP.callS (y := (⟨"com/example/apportion/apportion/IdleGapsFloorPinLaw", "in", "([JIIIJ)I"⟩ : MethodName)) (By := B7) (as := [(.ref s), (.int (2 : Int32)), (.int (1 : Int32)), (.int (1 : Int32)), (.long t)]) (rest := [(.int (c0 + c1))]) at_358 (w41 hw) (w42 hw) (w33 hw) (w43 hw) (by decide) (in_met hw s (2 : Int32) (1 : Int32) (1 : Int32) t _ 2 x2 A_s rfl rfl) pd_4 rfl rfl rfl (by decide) (Nat.le_of_ble_eq_true rfl) (by decide) (by decide) (pc' := 361) rfl ?_
          rintro _ _ ⟨rfl, c2, rfl, hc2⟩
          show WP _ _ _ _ _ _ _ _ _ _ [(.int c2), (.int (c0 + c1))]
          refine WP.iadd at_361 (pc' := 362) rfl ?_
          refine WP.aload at_362 rfl rfl (pc' := 364) rfl ?_
          refine WP.iconst at_364 (z := (3 : Int32)) rfl (pc' := 365) rfl ?_
          refine WP.iload at_365 rfl (pc' := 367) rfl ?_
          refine WP.iload at_367 rfl (pc' := 369) rfl ?_
          refine WP.lload at_369 rfl (pc' := 371) rfl ?_
          refine WP.callS (y := (⟨"com/example/apportion/apportion/IdleGapsFloorPinLaw", "in", "([JIIIJ)I"⟩ : MethodName)) (By := B7) (as := [(.ref s), (.int (3 : Int32)), (.int (1 : Int32)), (.int (1 : Int32)), (.long t)]) (rest := [(.int ((c0 + c1) + c2))]) at_371 (w41 hw) (w42 hw) (w33 hw) (w43 hw) (by decide) (in_met hw s (3 : Int32) (1 : Int32) (1 : Int32) t _ 3 x3 A_s rfl rfl) pd_4 rfl rfl rfl (by decide) (Nat.le_of_ble_eq_true rfl) (by decide) (by decide) (pc' := 374) rfl ?_
          rintro _ _ ⟨rfl, c3, rfl, hc3⟩
          show WP _ _ _ _ _ _ _ _ _ _ [(.int c3), (.int ((c0 + c1) + c2))]
          refine WP.iadd at_374 (pc' := 375) rfl ?_
          refine WP.aload at_375 rfl rfl (pc' := 377) rfl ?_
          refine WP.iconst at_377 (z := (4 : Int32)) rfl (pc' := 378) rfl ?_
          refine WP.iload at_378 rfl (pc' := 380) rfl ?_
          refine WP.iload at_380 rfl (pc' := 382) rfl ?_
          refine WP.lload at_382 rfl (pc' := 384) rfl ?_
          refine WP.callS (y := (⟨"com/example/apportion/apportion/IdleGapsFloorPinLaw", "in", "([JIIIJ)I"⟩ : MethodName)) (By := B7) (as := [(.ref s), (.int (4 : Int32)), (.int (1 : Int32)), (.int (1 : Int32)), (.long t)]) (rest := [(.int (((c0 + c1) + c2) + c3))]) at_384 (w41 hw) (w42 hw) (w33 hw) (w43 hw) (by decide) (in_met hw s (4 : Int32) (1 : Int32) (1 : Int32) t _ 4 x4 A_s rfl rfl) pd_4 rfl rfl rfl (by decide) (Nat.le_of_ble_eq_true rfl) (by decide) (by decide) (pc' := 387) rfl ?_
          rintro _ _ ⟨rfl, c4, rfl, hc4⟩
          show WP _ _ _ _ _ _ _ _ _ _ [(.int c4), (.int (((c0 + c1) + c2) + c3))]
          refine WP.iadd at_387 (pc' := 388) rfl ?_
          refine WP.iconst at_388 (z := (1 : Int32)) rfl (pc' := 389) rfl ?_
          refine WP.isub at_389 (pc' := 390) rfl ?_
          obtain ⟨ex, e_ex⟩ : ∃ z, z = (((((c0 + c1) + c2) + c3) + c4) - (1 : Int32)) := ⟨_, rfl⟩
          rw [← e_ex]
          refine WP.istore at_390 (pc' := 392) rfl (ls' := #[.val (.long a), .second, .val (.long t0), .second, .val (.long g), .second, .val (.int m), .val (.ref s), .val (.int (1 : Int32)), .val (.int (1 : Int32)), .val (.long t), .second, .val (.ref q), .val (.int (1 : Int32)), .val (.int ex)]) rfl ?_
          have f1 : (c0 + c1).toInt = c0.toInt + c1.toInt := by rw [own_iadd] <;> omega
          have f2 : (c0 + c1 + c2).toInt = c0.toInt + c1.toInt + c2.toInt := by rw [own_iadd] <;> omega
          have f3 : (c0 + c1 + c2 + c3).toInt = c0.toInt + c1.toInt + c2.toInt + c3.toInt := by rw [own_iadd] <;> omega
          have f4 : (c0 + c1 + c2 + c3 + c4).toInt = c0.toInt + c1.toInt + c2.toInt + c3.toInt + c4.toInt := by rw [own_iadd] <;> omega
          have f5 : ex.toInt = c0.toInt + c1.toInt + c2.toInt + c3.toInt + c4.toInt - 1 := by rw [e_ex, own_isub] <;> omega
          clear f1 f2 f3 f4
          refine WP.aload at_392 rfl rfl (pc' := 394) rfl ?_
          refine WP.lload at_394 rfl (pc' := 396) rfl ?_
          refine WP.callV (a := q) (z := (⟨"com/example/apportion/apportion/IdleGaps", "floor", "(J)I"⟩ : MethodName)) (Cl := "com/example/apportion/apportion/IdleGaps") (y := (⟨"com/example/apportion/apportion/IdleGaps", "floor", "(J)I"⟩ : MethodName)) (By := B8) (as := [(.long t)]) (rest := []) at_396 (w44 hw) (w45 hw) (w47 hw) (w46 hw) (w10 hw) (w48 hw) rfl rfl (by decide) O_q.1 (flo_1_1 hw q r0 e0 t x0 y1 y2 y3 O_q A_r0 trivial) pd_5 rfl rfl rfl (by decide) (Nat.le_of_ble_eq_true rfl) (by decide) (by decide) (pc' := 399) rfl ?_
          rintro _ _ ⟨rfl, fr, rfl, hf1, hf2, -⟩
          show WP _ _ _ _ _ _ _ _ _ _ [(.int fr)]
          refine WP.iload at_399 rfl (pc' := 401) rfl ?_
          refine WP.icmpNe at_401 (tgt := 408) (by decide) (pc' := 404) rfl (fun c401 => ?_) (fun c401 => ?_)
          ·
            refine WP.iconst at_408 (z := (0 : Int32)) rfl (pc' := 409) rfl ?_
            exact WP.retN at_409 (t := .boolean) rfl (by simp) (by decide) (by decide) (by exfalso; omega)
          refine WP.iconst at_404 (z := (1 : Int32)) rfl (pc' := 405) rfl ?_
          refine WP.goto at_405 (pc' := 409) (by decide) ?_
          exact WP.retN at_409 (t := .boolean) rfl (by simp) (by decide) (by decide) own_q1
        exfalso; omega
      exfalso; omega
    exfalso; omega
  exfalso; omega
theorem law_173_2_0 {l : Launch} {Z : State} {a0 : Array Value} (hw : HW Z a0) {n0 : Nat} {h : Heap} (a t0 g : Int64) (m : Int32) (s : Addr) (x0 x1 x2 x3 x4 : Int64) (A_s : Av Z h s .long [(.long x0), (.long x1), (.long x2), (.long x3), (.long x4)]) (g_s : n0 ≤ s) (hs : x0.toInt < x1.toInt ∧ x1.toInt < x2.toInt ∧ x2.toInt < x3.toInt ∧ x3.toInt < x4.toInt) (t : Int64) : WP l B0 Z n0 (fun v h' => v = some (.int 1)) h 1 5 173 #[.val (.long a), .second, .val (.long t0), .second, .val (.long g), .second, .val (.int m), .val (.ref s), .val (.int (2 : Int32)), .val (.int (0 : Int32)), .val (.long t), .second, .unset, .unset, .unset] [] := by
  have k32_0 : (0 : Int32).toInt = 0 := by decide
  have k32_1 : (1 : Int32).toInt = 1 := by decide
  have k32_2 : (2 : Int32).toInt = 2 := by decide
  have k32_3 : (3 : Int32).toInt = 3 := by decide
  have k32_4 : (4 : Int32).toInt = 4 := by decide
  refine WP.newobj (lay := L_IG) (vs := [.null, .null, (.int 0), (.int 0)]) at_173 (w8 hw) (w9 hw) (w10 hw) (lay_IG hw) rfl (by decide) (by decide) (pc' := 176) rfl ?_
  intro q h1 eb_q g_q K2 O_q
  have lt_s_q : s < q := by rw [eb_q]; exact A_s.lt
  replace A_s := A_s.keep K2 own_nil
  refine WP.dup at_176 rfl (pc' := 177) rfl ?_
  refine WP.lloadN at_177 rfl (pc' := 178) rfl ?_
  have lts := A_s.lt
  have ltq := O_q.lt
  refine WP.callI (a := q) (y := (⟨"com/example/apportion/apportion/IdleGaps", "<init>", "(J)V"⟩ : MethodName)) (By := B2) (as := [(.long a)]) (rest := [(.ref q)]) at_178 (w11 hw) (w12 hw) (w10 hw) (w13 hw) rfl rfl (by decide) (ini_met hw q a g_q O_q) pd_3 rfl rfl rfl (by decide) (Nat.le_of_ble_eq_true rfl) (by decide) (by decide) (pc' := 181) rfl ?_
  rintro _ h3 ⟨rfl, r0, e0, y0, y1, y2, y3, es0, O_n, A_r0, A_e0, hes, g_r0, g_e0, hnd0, Kc, sz1, sz2, hfe⟩
  replace A_s := A_s.keep Kc (own_cons (by first | assumption | exact Ne.symm (by assumption) | exact Nat.ne_of_lt (by assumption) | exact Nat.ne_of_gt (by assumption)) own_nil)
  replace O_q := O_n
  have n_sr : s ≠ r0 := Nat.ne_of_lt (Nat.lt_of_lt_of_le lts sz1)
  have n_se : s ≠ e0 := Nat.ne_of_lt (Nat.lt_of_lt_of_le lts sz2)
  obtain ⟨n_qr, n_qe, n_re⟩ := id hnd0
  show WP _ _ _ _ _ _ _ _ _ _ [(.ref q)]
  refine WP.astore at_181 (pc' := 183) rfl rfl (ls' := #[.val (.long a), .second, .val (.long t0), .second, .val (.long g), .second, .val (.int m), .val (.ref s), .val (.int (2 : Int32)), .val (.int (0 : Int32)), .val (.long t), .second, .val (.ref q), .unset, .unset]) rfl ?_
  refine WP.aload at_183 rfl rfl (pc' := 185) rfl ?_
  refine WP.callV (a := q) (z := (⟨"com/example/apportion/apportion/IdleGaps", "clear", "()V"⟩ : MethodName)) (Cl := "com/example/apportion/apportion/IdleGaps") (y := (⟨"com/example/apportion/apportion/IdleGaps", "clear", "()V"⟩ : MethodName)) (By := B4) (as := []) (rest := []) at_185 (w26 hw) (w27 hw) (w29 hw) (w28 hw) (w10 hw) (w30 hw) rfl rfl (by decide) O_q.1 (clr_met hw q r0 e0 _ _ g_q O_q) pd_2 rfl rfl rfl (by decide) (Nat.le_of_ble_eq_true rfl) (by decide) (by decide) (pc' := 188) rfl ?_
  rintro _ h4 ⟨rfl, Kc2, O_n⟩
  replace A_s := A_s.keep Kc2 (own_cons (by first | assumption | exact Ne.symm (by assumption) | exact Nat.ne_of_lt (by assumption) | exact Nat.ne_of_gt (by assumption)) own_nil)
  replace O_q := O_n
  replace A_r0 := A_r0.keep Kc2 (own_cons (by first | assumption | exact Ne.symm (by assumption) | exact Nat.ne_of_lt (by assumption) | exact Nat.ne_of_gt (by assumption)) own_nil)
  replace A_e0 := A_e0.keep Kc2 (own_cons (by first | assumption | exact Ne.symm (by assumption) | exact Nat.ne_of_lt (by assumption) | exact Nat.ne_of_gt (by assumption)) own_nil)
  show WP _ _ _ _ _ _ _ _ _ _ []
  refine WP.iload at_188 rfl (pc' := 190) rfl ?_
  refine WP.ifLe at_190 (tgt := 210) (by decide) (pc' := 193) rfl (fun c190 => ?_) (fun c190 => ?_)
  · exfalso; omega
  refine WP.aload at_193 rfl rfl (pc' := 195) rfl ?_
  refine WP.aload at_195 rfl rfl (pc' := 197) rfl ?_
  refine WP.iconst at_197 (z := (0 : Int32)) rfl (pc' := 198) rfl ?_
  refine WP.laload 0 at_198 A_s (x := x0) rfl rfl (pc' := 199) rfl ?_
  refine WP.aload at_199 rfl rfl (pc' := 201) rfl ?_
  refine WP.iconst at_201 (z := (0 : Int32)) rfl (pc' := 202) rfl ?_
  refine WP.iload at_202 rfl (pc' := 204) rfl ?_
  refine WP.callS (y := (⟨"com/example/apportion/apportion/IdleGapsFloorPinLaw", "endOf", "([JII)J"⟩ : MethodName)) (By := B5) (as := [(.ref s), (.int (0 : Int32)), (.int (2 : Int32))]) (rest := [(.long x0), (.ref q)]) at_204 (w31 hw) (w32 hw) (w33 hw) (w34 hw) (by decide) (end_met hw s (0 : Int32) (2 : Int32) _ 0 x0 A_s rfl rfl) pd_6 rfl rfl rfl (by decide) (Nat.le_of_ble_eq_true rfl) (by decide) (by decide) (pc' := 207) rfl ?_
  rintro _ _ ⟨rfl, z0, rfl⟩
  show WP _ _ _ _ _ _ _ _ _ _ [(.long z0), (.long x0), (.ref q)]
  refine WP.callV (a := q) (z := (⟨"com/example/apportion/apportion/IdleGaps", "append", "(JJ)V"⟩ : MethodName)) (Cl := "com/example/apportion/apportion/IdleGaps") (y := (⟨"com/example/apportion/apportion/IdleGaps", "append", "(JJ)V"⟩ : MethodName)) (By := B6) (as := [(.long x0), (.long z0)]) (rest := []) at_207 (w35 hw) (w36 hw) (w38 hw) (w37 hw) (w10 hw) (w39 hw) rfl rfl (by decide) O_q.1 (app0_met hw q r0 e0 x0 z0 y0 y1 y2 y3 _ g_q g_r0 g_e0 O_q A_r0 A_e0 hes hfe hnd0) pd_7 rfl rfl rfl (by decide) (Nat.le_of_ble_eq_true rfl) (by decide) (by decide) (pc' := 210) rfl ?_
  rintro _ h6 ⟨rfl, es1, O_n, A_n, A_m, hes, hfe, Ka0⟩
  replace A_s := A_s.keep Ka0 (own_cons (by first | assumption | exact Ne.symm (by assumption) | exact Nat.ne_of_lt (by assumption) | exact Nat.ne_of_gt (by assumption)) (own_cons (by first | assumption | exact Ne.symm (by assumption) | exact Nat.ne_of_lt (by assumption) | exact Nat.ne_of_gt (by assumption)) (own_cons (by first | assumption | exact Ne.symm (by assumption) | exact Nat.ne_of_lt (by assumption) | exact Nat.ne_of_gt (by assumption)) own_nil)))
  replace O_q := O_n
  replace A_r0 := A_n
  replace A_e0 := A_m
  show WP _ _ _ _ _ _ _ _ _ _ []
  refine WP.iload at_210 rfl (pc' := 212) rfl ?_
  refine WP.iconst at_212 (z := (1 : Int32)) rfl (pc' := 213) rfl ?_
  refine WP.icmpLe at_213 (tgt := 233) (by decide) (pc' := 216) rfl (fun c213 => ?_) (fun c213 => ?_)
  · exfalso; omega
  refine WP.aload at_216 rfl rfl (pc' := 218) rfl ?_
  refine WP.aload at_218 rfl rfl (pc' := 220) rfl ?_
  refine WP.iconst at_220 (z := (1 : Int32)) rfl (pc' := 221) rfl ?_
  refine WP.laload 1 at_221 A_s (x := x1) rfl rfl (pc' := 222) rfl ?_
  refine WP.aload at_222 rfl rfl (pc' := 224) rfl ?_
  refine WP.iconst at_224 (z := (1 : Int32)) rfl (pc' := 225) rfl ?_
  refine WP.iload at_225 rfl (pc' := 227) rfl ?_
  refine WP.callS (y := (⟨"com/example/apportion/apportion/IdleGapsFloorPinLaw", "endOf", "([JII)J"⟩ : MethodName)) (By := B5) (as := [(.ref s), (.int (1 : Int32)), (.int (2 : Int32))]) (rest := [(.long x1), (.ref q)]) at_227 (w31 hw) (w32 hw) (w33 hw) (w34 hw) (by decide) (end_met hw s (1 : Int32) (2 : Int32) _ 1 x1 A_s rfl rfl) pd_6 rfl rfl rfl (by decide) (Nat.le_of_ble_eq_true rfl) (by decide) (by decide) (pc' := 230) rfl ?_
  rintro _ _ ⟨rfl, z1, rfl⟩
  show WP _ _ _ _ _ _ _ _ _ _ [(.long z1), (.long x1), (.ref q)]
  refine WP.callV (a := q) (z := (⟨"com/example/apportion/apportion/IdleGaps", "append", "(JJ)V"⟩ : MethodName)) (Cl := "com/example/apportion/apportion/IdleGaps") (y := (⟨"com/example/apportion/apportion/IdleGaps", "append", "(JJ)V"⟩ : MethodName)) (By := B6) (as := [(.long x1), (.long z1)]) (rest := []) at_230 (w35 hw) (w36 hw) (w38 hw) (w37 hw) (w10 hw) (w39 hw) rfl rfl (by decide) O_q.1 (app1_met hw q r0 e0 x1 z1 x0 y1 y2 y3 _ g_q g_r0 g_e0 O_q A_r0 A_e0 hes hfe hnd0) pd_7 rfl rfl rfl (by decide) (Nat.le_of_ble_eq_true rfl) (by decide) (by decide) (pc' := 233) rfl ?_
  rintro _ h8 ⟨rfl, es2, O_n, A_n, A_m, hes, hfe, Ka1⟩
  replace A_s := A_s.keep Ka1 (own_cons (by first | assumption | exact Ne.symm (by assumption) | exact Nat.ne_of_lt (by assumption) | exact Nat.ne_of_gt (by assumption)) (own_cons (by first | assumption | exact Ne.symm (by assumption) | exact Nat.ne_of_lt (by assumption) | exact Nat.ne_of_gt (by assumption)) (own_cons (by first | assumption | exact Ne.symm (by assumption) | exact Nat.ne_of_lt (by assumption) | exact Nat.ne_of_gt (by assumption)) own_nil)))
  replace O_q := O_n
  replace A_r0 := A_n
  replace A_e0 := A_m
  show WP _ _ _ _ _ _ _ _ _ _ []
  refine WP.iload at_233 rfl (pc' := 235) rfl ?_
  refine WP.iconst at_235 (z := (2 : Int32)) rfl (pc' := 236) rfl ?_
  refine WP.icmpLe at_236 (tgt := 256) (by decide) (pc' := 239) rfl (fun c236 => ?_) (fun c236 => ?_)
  ·
    refine WP.iload at_256 rfl (pc' := 258) rfl ?_
    refine WP.iconst at_258 (z := (3 : Int32)) rfl (pc' := 259) rfl ?_
    refine WP.icmpLe at_259 (tgt := 279) (by decide) (pc' := 262) rfl (fun c259 => ?_) (fun c259 => ?_)
    ·
      refine WP.iload at_279 rfl (pc' := 281) rfl ?_
      refine WP.iconst at_281 (z := (4 : Int32)) rfl (pc' := 282) rfl ?_
      refine WP.icmpLe at_282 (tgt := 302) (by decide) (pc' := 285) rfl (fun c282 => ?_) (fun c282 => ?_)
      ·
        refine WP.iload at_302 rfl (pc' := 304) rfl ?_
        refine WP.ifEq at_304 (tgt := 312) (by decide) (pc' := 307) rfl (fun c304 => ?_) (fun c304 => ?_)
        ·
          refine WP.iload at_312 rfl (pc' := 314) rfl ?_
          refine WP.ifEq at_314 (tgt := 321) (by decide) (pc' := 317) rfl (fun c314 => ?_) (fun c314 => ?_)
          ·
            refine WP.iconst at_321 (z := (0 : Int32)) rfl (pc' := 322) rfl ?_
            refine WP.istore at_322 (pc' := 324) rfl (ls' := #[.val (.long a), .second, .val (.long t0), .second, .val (.long g), .second, .val (.int m), .val (.ref s), .val (.int (2 : Int32)), .val (.int (0 : Int32)), .val (.long t), .second, .val (.ref q), .val (.int (0 : Int32)), .unset]) rfl ?_
            refine WP.aload at_324 rfl rfl (pc' := 326) rfl ?_
            refine WP.iconst at_326 (z := (0 : Int32)) rfl (pc' := 327) rfl ?_
            refine WP.iload at_327 rfl (pc' := 329) rfl ?_
            refine WP.iload at_329 rfl (pc' := 331) rfl ?_
            refine WP.lload at_331 rfl (pc' := 333) rfl ?_
            refine WP.callS (y := (⟨"com/example/apportion/apportion/IdleGapsFloorPinLaw", "in", "([JIIIJ)I"⟩ : MethodName)) (By := B7) (as := [(.ref s), (.int (0 : Int32)), (.int (0 : Int32)), (.int (2 : Int32)), (.long t)]) (rest := []) at_333 (w41 hw) (w42 hw) (w33 hw) (w43 hw) (by decide) (in_met hw s (0 : Int32) (0 : Int32) (2 : Int32) t _ 0 x0 A_s rfl rfl) pd_4 rfl rfl rfl (by decide) (Nat.le_of_ble_eq_true rfl) (by decide) (by decide) (pc' := 336) rfl ?_
            rintro _ _ ⟨rfl, c0, rfl, hc0⟩
            show WP _ _ _ _ _ _ _ _ _ _ [(.int c0)]
            refine WP.aload at_336 rfl rfl (pc' := 338) rfl ?_
            refine WP.iconst at_338 (z := (1 : Int32)) rfl (pc' := 339) rfl ?_
            refine WP.iload at_339 rfl (pc' := 341) rfl ?_
            refine WP.iload at_341 rfl (pc' := 343) rfl ?_
            refine WP.lload at_343 rfl (pc' := 345) rfl ?_
            refine WP.callS (y := (⟨"com/example/apportion/apportion/IdleGapsFloorPinLaw", "in", "([JIIIJ)I"⟩ : MethodName)) (By := B7) (as := [(.ref s), (.int (1 : Int32)), (.int (0 : Int32)), (.int (2 : Int32)), (.long t)]) (rest := [(.int c0)]) at_345 (w41 hw) (w42 hw) (w33 hw) (w43 hw) (by decide) (in_met hw s (1 : Int32) (0 : Int32) (2 : Int32) t _ 1 x1 A_s rfl rfl) pd_4 rfl rfl rfl (by decide) (Nat.le_of_ble_eq_true rfl) (by decide) (by decide) (pc' := 348) rfl ?_
            rintro _ _ ⟨rfl, c1, rfl, hc1⟩
            show WP _ _ _ _ _ _ _ _ _ _ [(.int c1), (.int c0)]
            refine WP.iadd at_348 (pc' := 349) rfl ?_
            refine WP.aload at_349 rfl rfl (pc' := 351) rfl ?_
            refine WP.iconst at_351 (z := (2 : Int32)) rfl (pc' := 352) rfl ?_
            refine WP.iload at_352 rfl (pc' := 354) rfl ?_
            refine WP.iload at_354 rfl (pc' := 356) rfl ?_
            refine WP.lload at_356 rfl (pc' := 358) rfl ?_
            refine WP.callS (y := (⟨"com/example/apportion/apportion/IdleGapsFloorPinLaw", "in", "([JIIIJ)I"⟩ : MethodName)) (By := B7) (as := [(.ref s), (.int (2 : Int32)), (.int (0 : Int32)), (.int (2 : Int32)), (.long t)]) (rest := [(.int (c0 + c1))]) at_358 (w41 hw) (w42 hw) (w33 hw) (w43 hw) (by decide) (in_met hw s (2 : Int32) (0 : Int32) (2 : Int32) t _ 2 x2 A_s rfl rfl) pd_4 rfl rfl rfl (by decide) (Nat.le_of_ble_eq_true rfl) (by decide) (by decide) (pc' := 361) rfl ?_
            rintro _ _ ⟨rfl, c2, rfl, hc2⟩
            show WP _ _ _ _ _ _ _ _ _ _ [(.int c2), (.int (c0 + c1))]
            refine WP.iadd at_361 (pc' := 362) rfl ?_
            refine WP.aload at_362 rfl rfl (pc' := 364) rfl ?_
            refine WP.iconst at_364 (z := (3 : Int32)) rfl (pc' := 365) rfl ?_
            refine WP.iload at_365 rfl (pc' := 367) rfl ?_
            refine WP.iload at_367 rfl (pc' := 369) rfl ?_
            refine WP.lload at_369 rfl (pc' := 371) rfl ?_
            refine WP.callS (y := (⟨"com/example/apportion/apportion/IdleGapsFloorPinLaw", "in", "([JIIIJ)I"⟩ : MethodName)) (By := B7) (as := [(.ref s), (.int (3 : Int32)), (.int (0 : Int32)), (.int (2 : Int32)), (.long t)]) (rest := [(.int ((c0 + c1) + c2))]) at_371 (w41 hw) (w42 hw) (w33 hw) (w43 hw) (by decide) (in_met hw s (3 : Int32) (0 : Int32) (2 : Int32) t _ 3 x3 A_s rfl rfl) pd_4 rfl rfl rfl (by decide) (Nat.le_of_ble_eq_true rfl) (by decide) (by decide) (pc' := 374) rfl ?_
            rintro _ _ ⟨rfl, c3, rfl, hc3⟩
            show WP _ _ _ _ _ _ _ _ _ _ [(.int c3), (.int ((c0 + c1) + c2))]
            refine WP.iadd at_374 (pc' := 375) rfl ?_
            refine WP.aload at_375 rfl rfl (pc' := 377) rfl ?_
            refine WP.iconst at_377 (z := (4 : Int32)) rfl (pc' := 378) rfl ?_
            refine WP.iload at_378 rfl (pc' := 380) rfl ?_
            refine WP.iload at_380 rfl (pc' := 382) rfl ?_
            refine WP.lload at_382 rfl (pc' := 384) rfl ?_
            refine WP.callS (y := (⟨"com/example/apportion/apportion/IdleGapsFloorPinLaw", "in", "([JIIIJ)I"⟩ : MethodName)) (By := B7) (as := [(.ref s), (.int (4 : Int32)), (.int (0 : Int32)), (.int (2 : Int32)), (.long t)]) (rest := [(.int (((c0 + c1) + c2) + c3))]) at_384 (w41 hw) (w42 hw) (w33 hw) (w43 hw) (by decide) (in_met hw s (4 : Int32) (0 : Int32) (2 : Int32) t _ 4 x4 A_s rfl rfl) pd_4 rfl rfl rfl (by decide) (Nat.le_of_ble_eq_true rfl) (by decide) (by decide) (pc' := 387) rfl ?_
            rintro _ _ ⟨rfl, c4, rfl, hc4⟩
            show WP _ _ _ _ _ _ _ _ _ _ [(.int c4), (.int (((c0 + c1) + c2) + c3))]
            refine WP.iadd at_387 (pc' := 388) rfl ?_
            refine WP.iconst at_388 (z := (1 : Int32)) rfl (pc' := 389) rfl ?_
            refine WP.isub at_389 (pc' := 390) rfl ?_
            obtain ⟨ex, e_ex⟩ : ∃ z, z = (((((c0 + c1) + c2) + c3) + c4) - (1 : Int32)) := ⟨_, rfl⟩
            rw [← e_ex]
            refine WP.istore at_390 (pc' := 392) rfl (ls' := #[.val (.long a), .second, .val (.long t0), .second, .val (.long g), .second, .val (.int m), .val (.ref s), .val (.int (2 : Int32)), .val (.int (0 : Int32)), .val (.long t), .second, .val (.ref q), .val (.int (0 : Int32)), .val (.int ex)]) rfl ?_
            have f1 : (c0 + c1).toInt = c0.toInt + c1.toInt := by rw [own_iadd] <;> omega
            have f2 : (c0 + c1 + c2).toInt = c0.toInt + c1.toInt + c2.toInt := by rw [own_iadd] <;> omega
            have f3 : (c0 + c1 + c2 + c3).toInt = c0.toInt + c1.toInt + c2.toInt + c3.toInt := by rw [own_iadd] <;> omega
            have f4 : (c0 + c1 + c2 + c3 + c4).toInt = c0.toInt + c1.toInt + c2.toInt + c3.toInt + c4.toInt := by rw [own_iadd] <;> omega
            have f5 : ex.toInt = c0.toInt + c1.toInt + c2.toInt + c3.toInt + c4.toInt - 1 := by rw [e_ex, own_isub] <;> omega
            clear f1 f2 f3 f4
            refine WP.aload at_392 rfl rfl (pc' := 394) rfl ?_
            refine WP.lload at_394 rfl (pc' := 396) rfl ?_
            refine WP.callV (a := q) (z := (⟨"com/example/apportion/apportion/IdleGaps", "floor", "(J)I"⟩ : MethodName)) (Cl := "com/example/apportion/apportion/IdleGaps") (y := (⟨"com/example/apportion/apportion/IdleGaps", "floor", "(J)I"⟩ : MethodName)) (By := B8) (as := [(.long t)]) (rest := []) at_396 (w44 hw) (w45 hw) (w47 hw) (w46 hw) (w10 hw) (w48 hw) rfl rfl (by decide) O_q.1 (flo_0_2 hw q r0 e0 t x0 x1 y2 y3 O_q A_r0 (by omega)) pd_5 rfl rfl rfl (by decide) (Nat.le_of_ble_eq_true rfl) (by decide) (by decide) (pc' := 399) rfl ?_
            rintro _ _ ⟨rfl, fr, rfl, hf1, hf2, hf10, hf11⟩
            show WP _ _ _ _ _ _ _ _ _ _ [(.int fr)]
            refine WP.iload at_399 rfl (pc' := 401) rfl ?_
            refine WP.icmpNe at_401 (tgt := 408) (by decide) (pc' := 404) rfl (fun c401 => ?_) (fun c401 => ?_)
            ·
              refine WP.iconst at_408 (z := (0 : Int32)) rfl (pc' := 409) rfl ?_
              exact WP.retN at_409 (t := .boolean) rfl (by simp) (by decide) (by decide) (by exfalso; omega)
            refine WP.iconst at_404 (z := (1 : Int32)) rfl (pc' := 405) rfl ?_
            refine WP.goto at_405 (pc' := 409) (by decide) ?_
            exact WP.retN at_409 (t := .boolean) rfl (by simp) (by decide) (by decide) own_q1
          exfalso; omega
        exfalso; omega
      exfalso; omega
    exfalso; omega
  exfalso; omega
theorem law_173_2_1 {l : Launch} {Z : State} {a0 : Array Value} (hw : HW Z a0) {n0 : Nat} {h : Heap} (a t0 g : Int64) (m : Int32) (s : Addr) (x0 x1 x2 x3 x4 : Int64) (A_s : Av Z h s .long [(.long x0), (.long x1), (.long x2), (.long x3), (.long x4)]) (g_s : n0 ≤ s) (hs : x0.toInt < x1.toInt ∧ x1.toInt < x2.toInt ∧ x2.toInt < x3.toInt ∧ x3.toInt < x4.toInt) (t : Int64) : WP l B0 Z n0 (fun v h' => v = some (.int 1)) h 1 5 173 #[.val (.long a), .second, .val (.long t0), .second, .val (.long g), .second, .val (.int m), .val (.ref s), .val (.int (2 : Int32)), .val (.int (1 : Int32)), .val (.long t), .second, .unset, .unset, .unset] [] := by
  have k32_0 : (0 : Int32).toInt = 0 := by decide
  have k32_1 : (1 : Int32).toInt = 1 := by decide
  have k32_2 : (2 : Int32).toInt = 2 := by decide
  have k32_3 : (3 : Int32).toInt = 3 := by decide
  have k32_4 : (4 : Int32).toInt = 4 := by decide
  refine WP.newobj (lay := L_IG) (vs := [.null, .null, (.int 0), (.int 0)]) at_173 (w8 hw) (w9 hw) (w10 hw) (lay_IG hw) rfl (by decide) (by decide) (pc' := 176) rfl ?_
  intro q h1 eb_q g_q K2 O_q
  have lt_s_q : s < q := by rw [eb_q]; exact A_s.lt
  replace A_s := A_s.keep K2 own_nil
  refine WP.dup at_176 rfl (pc' := 177) rfl ?_
  refine WP.lloadN at_177 rfl (pc' := 178) rfl ?_
  have lts := A_s.lt
  have ltq := O_q.lt
  refine WP.callI (a := q) (y := (⟨"com/example/apportion/apportion/IdleGaps", "<init>", "(J)V"⟩ : MethodName)) (By := B2) (as := [(.long a)]) (rest := [(.ref q)]) at_178 (w11 hw) (w12 hw) (w10 hw) (w13 hw) rfl rfl (by decide) (ini_met hw q a g_q O_q) pd_3 rfl rfl rfl (by decide) (Nat.le_of_ble_eq_true rfl) (by decide) (by decide) (pc' := 181) rfl ?_
  rintro _ h3 ⟨rfl, r0, e0, y0, y1, y2, y3, es0, O_n, A_r0, A_e0, hes, g_r0, g_e0, hnd0, Kc, sz1, sz2, hfe⟩
  replace A_s := A_s.keep Kc (own_cons (by first | assumption | exact Ne.symm (by assumption) | exact Nat.ne_of_lt (by assumption) | exact Nat.ne_of_gt (by assumption)) own_nil)
  replace O_q := O_n
  have n_sr : s ≠ r0 := Nat.ne_of_lt (Nat.lt_of_lt_of_le lts sz1)
  have n_se : s ≠ e0 := Nat.ne_of_lt (Nat.lt_of_lt_of_le lts sz2)
  obtain ⟨n_qr, n_qe, n_re⟩ := id hnd0
  show WP _ _ _ _ _ _ _ _ _ _ [(.ref q)]
  refine WP.astore at_181 (pc' := 183) rfl rfl (ls' := #[.val (.long a), .second, .val (.long t0), .second, .val (.long g), .second, .val (.int m), .val (.ref s), .val (.int (2 : Int32)), .val (.int (1 : Int32)), .val (.long t), .second, .val (.ref q), .unset, .unset]) rfl ?_
  refine WP.aload at_183 rfl rfl (pc' := 185) rfl ?_
  refine WP.callV (a := q) (z := (⟨"com/example/apportion/apportion/IdleGaps", "clear", "()V"⟩ : MethodName)) (Cl := "com/example/apportion/apportion/IdleGaps") (y := (⟨"com/example/apportion/apportion/IdleGaps", "clear", "()V"⟩ : MethodName)) (By := B4) (as := []) (rest := []) at_185 (w26 hw) (w27 hw) (w29 hw) (w28 hw) (w10 hw) (w30 hw) rfl rfl (by decide) O_q.1 (clr_met hw q r0 e0 _ _ g_q O_q) pd_2 rfl rfl rfl (by decide) (Nat.le_of_ble_eq_true rfl) (by decide) (by decide) (pc' := 188) rfl ?_
  rintro _ h4 ⟨rfl, Kc2, O_n⟩
  replace A_s := A_s.keep Kc2 (own_cons (by first | assumption | exact Ne.symm (by assumption) | exact Nat.ne_of_lt (by assumption) | exact Nat.ne_of_gt (by assumption)) own_nil)
  replace O_q := O_n
  replace A_r0 := A_r0.keep Kc2 (own_cons (by first | assumption | exact Ne.symm (by assumption) | exact Nat.ne_of_lt (by assumption) | exact Nat.ne_of_gt (by assumption)) own_nil)
  replace A_e0 := A_e0.keep Kc2 (own_cons (by first | assumption | exact Ne.symm (by assumption) | exact Nat.ne_of_lt (by assumption) | exact Nat.ne_of_gt (by assumption)) own_nil)
  show WP _ _ _ _ _ _ _ _ _ _ []
  refine WP.iload at_188 rfl (pc' := 190) rfl ?_
  refine WP.ifLe at_190 (tgt := 210) (by decide) (pc' := 193) rfl (fun c190 => ?_) (fun c190 => ?_)
  · exfalso; omega
  refine WP.aload at_193 rfl rfl (pc' := 195) rfl ?_
  refine WP.aload at_195 rfl rfl (pc' := 197) rfl ?_
  refine WP.iconst at_197 (z := (0 : Int32)) rfl (pc' := 198) rfl ?_
  refine WP.laload 0 at_198 A_s (x := x0) rfl rfl (pc' := 199) rfl ?_
  refine WP.aload at_199 rfl rfl (pc' := 201) rfl ?_
  refine WP.iconst at_201 (z := (0 : Int32)) rfl (pc' := 202) rfl ?_
  refine WP.iload at_202 rfl (pc' := 204) rfl ?_
  refine WP.callS (y := (⟨"com/example/apportion/apportion/IdleGapsFloorPinLaw", "endOf", "([JII)J"⟩ : MethodName)) (By := B5) (as := [(.ref s), (.int (0 : Int32)), (.int (2 : Int32))]) (rest := [(.long x0), (.ref q)]) at_204 (w31 hw) (w32 hw) (w33 hw) (w34 hw) (by decide) (end_met hw s (0 : Int32) (2 : Int32) _ 0 x0 A_s rfl rfl) pd_6 rfl rfl rfl (by decide) (Nat.le_of_ble_eq_true rfl) (by decide) (by decide) (pc' := 207) rfl ?_
  rintro _ _ ⟨rfl, z0, rfl⟩
  show WP _ _ _ _ _ _ _ _ _ _ [(.long z0), (.long x0), (.ref q)]
  refine WP.callV (a := q) (z := (⟨"com/example/apportion/apportion/IdleGaps", "append", "(JJ)V"⟩ : MethodName)) (Cl := "com/example/apportion/apportion/IdleGaps") (y := (⟨"com/example/apportion/apportion/IdleGaps", "append", "(JJ)V"⟩ : MethodName)) (By := B6) (as := [(.long x0), (.long z0)]) (rest := []) at_207 (w35 hw) (w36 hw) (w38 hw) (w37 hw) (w10 hw) (w39 hw) rfl rfl (by decide) O_q.1 (app0_met hw q r0 e0 x0 z0 y0 y1 y2 y3 _ g_q g_r0 g_e0 O_q A_r0 A_e0 hes hfe hnd0) pd_7 rfl rfl rfl (by decide) (Nat.le_of_ble_eq_true rfl) (by decide) (by decide) (pc' := 210) rfl ?_
  rintro _ h6 ⟨rfl, es1, O_n, A_n, A_m, hes, hfe, Ka0⟩
  replace A_s := A_s.keep Ka0 (own_cons (by first | assumption | exact Ne.symm (by assumption) | exact Nat.ne_of_lt (by assumption) | exact Nat.ne_of_gt (by assumption)) (own_cons (by first | assumption | exact Ne.symm (by assumption) | exact Nat.ne_of_lt (by assumption) | exact Nat.ne_of_gt (by assumption)) (own_cons (by first | assumption | exact Ne.symm (by assumption) | exact Nat.ne_of_lt (by assumption) | exact Nat.ne_of_gt (by assumption)) own_nil)))
  replace O_q := O_n
  replace A_r0 := A_n
  replace A_e0 := A_m
  show WP _ _ _ _ _ _ _ _ _ _ []
  refine WP.iload at_210 rfl (pc' := 212) rfl ?_
  refine WP.iconst at_212 (z := (1 : Int32)) rfl (pc' := 213) rfl ?_
  refine WP.icmpLe at_213 (tgt := 233) (by decide) (pc' := 216) rfl (fun c213 => ?_) (fun c213 => ?_)
  · exfalso; omega
  refine WP.aload at_216 rfl rfl (pc' := 218) rfl ?_
  refine WP.aload at_218 rfl rfl (pc' := 220) rfl ?_
  refine WP.iconst at_220 (z := (1 : Int32)) rfl (pc' := 221) rfl ?_
  refine WP.laload 1 at_221 A_s (x := x1) rfl rfl (pc' := 222) rfl ?_
  refine WP.aload at_222 rfl rfl (pc' := 224) rfl ?_
  refine WP.iconst at_224 (z := (1 : Int32)) rfl (pc' := 225) rfl ?_
  refine WP.iload at_225 rfl (pc' := 227) rfl ?_
  refine WP.callS (y := (⟨"com/example/apportion/apportion/IdleGapsFloorPinLaw", "endOf", "([JII)J"⟩ : MethodName)) (By := B5) (as := [(.ref s), (.int (1 : Int32)), (.int (2 : Int32))]) (rest := [(.long x1), (.ref q)]) at_227 (w31 hw) (w32 hw) (w33 hw) (w34 hw) (by decide) (end_met hw s (1 : Int32) (2 : Int32) _ 1 x1 A_s rfl rfl) pd_6 rfl rfl rfl (by decide) (Nat.le_of_ble_eq_true rfl) (by decide) (by decide) (pc' := 230) rfl ?_
  rintro _ _ ⟨rfl, z1, rfl⟩
  show WP _ _ _ _ _ _ _ _ _ _ [(.long z1), (.long x1), (.ref q)]
  refine WP.callV (a := q) (z := (⟨"com/example/apportion/apportion/IdleGaps", "append", "(JJ)V"⟩ : MethodName)) (Cl := "com/example/apportion/apportion/IdleGaps") (y := (⟨"com/example/apportion/apportion/IdleGaps", "append", "(JJ)V"⟩ : MethodName)) (By := B6) (as := [(.long x1), (.long z1)]) (rest := []) at_230 (w35 hw) (w36 hw) (w38 hw) (w37 hw) (w10 hw) (w39 hw) rfl rfl (by decide) O_q.1 (app1_met hw q r0 e0 x1 z1 x0 y1 y2 y3 _ g_q g_r0 g_e0 O_q A_r0 A_e0 hes hfe hnd0) pd_7 rfl rfl rfl (by decide) (Nat.le_of_ble_eq_true rfl) (by decide) (by decide) (pc' := 233) rfl ?_
  rintro _ h8 ⟨rfl, es2, O_n, A_n, A_m, hes, hfe, Ka1⟩
  replace A_s := A_s.keep Ka1 (own_cons (by first | assumption | exact Ne.symm (by assumption) | exact Nat.ne_of_lt (by assumption) | exact Nat.ne_of_gt (by assumption)) (own_cons (by first | assumption | exact Ne.symm (by assumption) | exact Nat.ne_of_lt (by assumption) | exact Nat.ne_of_gt (by assumption)) (own_cons (by first | assumption | exact Ne.symm (by assumption) | exact Nat.ne_of_lt (by assumption) | exact Nat.ne_of_gt (by assumption)) own_nil)))
  replace O_q := O_n
  replace A_r0 := A_n
  replace A_e0 := A_m
  show WP _ _ _ _ _ _ _ _ _ _ []
  refine WP.iload at_233 rfl (pc' := 235) rfl ?_
  refine WP.iconst at_235 (z := (2 : Int32)) rfl (pc' := 236) rfl ?_
  refine WP.icmpLe at_236 (tgt := 256) (by decide) (pc' := 239) rfl (fun c236 => ?_) (fun c236 => ?_)
  ·
    refine WP.iload at_256 rfl (pc' := 258) rfl ?_
    refine WP.iconst at_258 (z := (3 : Int32)) rfl (pc' := 259) rfl ?_
    refine WP.icmpLe at_259 (tgt := 279) (by decide) (pc' := 262) rfl (fun c259 => ?_) (fun c259 => ?_)
    ·
      refine WP.iload at_279 rfl (pc' := 281) rfl ?_
      refine WP.iconst at_281 (z := (4 : Int32)) rfl (pc' := 282) rfl ?_
      refine WP.icmpLe at_282 (tgt := 302) (by decide) (pc' := 285) rfl (fun c282 => ?_) (fun c282 => ?_)
      ·
        refine WP.iload at_302 rfl (pc' := 304) rfl ?_
        refine WP.ifEq at_304 (tgt := 312) (by decide) (pc' := 307) rfl (fun c304 => ?_) (fun c304 => ?_)
        · exfalso; omega
        refine WP.aload at_307 rfl rfl (pc' := 309) rfl ?_
        refine WP.callV (a := q) (z := (⟨"com/example/apportion/apportion/IdleGaps", "dropFirst", "()V"⟩ : MethodName)) (Cl := "com/example/apportion/apportion/IdleGaps") (y := (⟨"com/example/apportion/apportion/IdleGaps", "dropFirst", "()V"⟩ : MethodName)) (By := B9) (as := []) (rest := []) at_309 (w49 hw) (w50 hw) (w52 hw) (w51 hw) (w10 hw) (w53 hw) rfl rfl (by decide) O_q.1 (drp_met hw q r0 e0 _ g_q O_q) pd_2 rfl rfl rfl (by decide) (Nat.le_of_ble_eq_true rfl) (by decide) (by decide) (pc' := 312) rfl ?_
        rintro _ h9 ⟨rfl, Kd, O_n⟩
        replace A_s := A_s.keep Kd (own_cons (by first | assumption | exact Ne.symm (by assumption) | exact Nat.ne_of_lt (by assumption) | exact Nat.ne_of_gt (by assumption)) own_nil)
        replace O_q := O_n
        replace A_r0 := A_r0.keep Kd (own_cons (by first | assumption | exact Ne.symm (by assumption) | exact Nat.ne_of_lt (by assumption) | exact Nat.ne_of_gt (by assumption)) own_nil)
        show WP _ _ _ _ _ _ _ _ _ _ []
        refine WP.iload at_312 rfl (pc' := 314) rfl ?_
        refine WP.ifEq at_314 (tgt := 321) (by decide) (pc' := 317) rfl (fun c314 => ?_) (fun c314 => ?_)
        · exfalso; omega
        refine WP.iconst at_317 (z := (1 : Int32)) rfl (pc' := 318) rfl ?_
        refine WP.goto at_318 (pc' := 322) (by decide) ?_
        refine WP.istore at_322 (pc' := 324) rfl (ls' := #[.val (.long a), .second, .val (.long t0), .second, .val (.long g), .second, .val (.int m), .val (.ref s), .val (.int (2 : Int32)), .val (.int (1 : Int32)), .val (.long t), .second, .val (.ref q), .val (.int (1 : Int32)), .unset]) rfl ?_
        refine WP.aload at_324 rfl rfl (pc' := 326) rfl ?_
        refine WP.iconst at_326 (z := (0 : Int32)) rfl (pc' := 327) rfl ?_
        refine WP.iload at_327 rfl (pc' := 329) rfl ?_
        refine WP.iload at_329 rfl (pc' := 331) rfl ?_
        refine WP.lload at_331 rfl (pc' := 333) rfl ?_
        refine WP.callS (y := (⟨"com/example/apportion/apportion/IdleGapsFloorPinLaw", "in", "([JIIIJ)I"⟩ : MethodName)) (By := B7) (as := [(.ref s), (.int (0 : Int32)), (.int (1 : Int32)), (.int (2 : Int32)), (.long t)]) (rest := []) at_333 (w41 hw) (w42 hw) (w33 hw) (w43 hw) (by decide) (in_met hw s (0 : Int32) (1 : Int32) (2 : Int32) t _ 0 x0 A_s rfl rfl) pd_4 rfl rfl rfl (by decide) (Nat.le_of_ble_eq_true rfl) (by decide) (by decide) (pc' := 336) rfl ?_
        rintro _ _ ⟨rfl, c0, rfl, hc0⟩
        show WP _ _ _ _ _ _ _ _ _ _ [(.int c0)]
        refine WP.aload at_336 rfl rfl (pc' := 338) rfl ?_
        refine WP.iconst at_338 (z := (1 : Int32)) rfl (pc' := 339) rfl ?_
        refine WP.iload at_339 rfl (pc' := 341) rfl ?_
        refine WP.iload at_341 rfl (pc' := 343) rfl ?_
        refine WP.lload at_343 rfl (pc' := 345) rfl ?_
        refine WP.callS (y := (⟨"com/example/apportion/apportion/IdleGapsFloorPinLaw", "in", "([JIIIJ)I"⟩ : MethodName)) (By := B7) (as := [(.ref s), (.int (1 : Int32)), (.int (1 : Int32)), (.int (2 : Int32)), (.long t)]) (rest := [(.int c0)]) at_345 (w41 hw) (w42 hw) (w33 hw) (w43 hw) (by decide) (in_met hw s (1 : Int32) (1 : Int32) (2 : Int32) t _ 1 x1 A_s rfl rfl) pd_4 rfl rfl rfl (by decide) (Nat.le_of_ble_eq_true rfl) (by decide) (by decide) (pc' := 348) rfl ?_
        rintro _ _ ⟨rfl, c1, rfl, hc1⟩
        show WP _ _ _ _ _ _ _ _ _ _ [(.int c1), (.int c0)]
        refine WP.iadd at_348 (pc' := 349) rfl ?_
        refine WP.aload at_349 rfl rfl (pc' := 351) rfl ?_
        refine WP.iconst at_351 (z := (2 : Int32)) rfl (pc' := 352) rfl ?_
        refine WP.iload at_352 rfl (pc' := 354) rfl ?_
        refine WP.iload at_354 rfl (pc' := 356) rfl ?_
        refine WP.lload at_356 rfl (pc' := 358) rfl ?_
        refine WP.callS (y := (⟨"com/example/apportion/apportion/IdleGapsFloorPinLaw", "in", "([JIIIJ)I"⟩ : MethodName)) (By := B7) (as := [(.ref s), (.int (2 : Int32)), (.int (1 : Int32)), (.int (2 : Int32)), (.long t)]) (rest := [(.int (c0 + c1))]) at_358 (w41 hw) (w42 hw) (w33 hw) (w43 hw) (by decide) (in_met hw s (2 : Int32) (1 : Int32) (2 : Int32) t _ 2 x2 A_s rfl rfl) pd_4 rfl rfl rfl (by decide) (Nat.le_of_ble_eq_true rfl) (by decide) (by decide) (pc' := 361) rfl ?_
        rintro _ _ ⟨rfl, c2, rfl, hc2⟩
        show WP _ _ _ _ _ _ _ _ _ _ [(.int c2), (.int (c0 + c1))]
        refine WP.iadd at_361 (pc' := 362) rfl ?_
        refine WP.aload at_362 rfl rfl (pc' := 364) rfl ?_
        refine WP.iconst at_364 (z := (3 : Int32)) rfl (pc' := 365) rfl ?_
        refine WP.iload at_365 rfl (pc' := 367) rfl ?_
        refine WP.iload at_367 rfl (pc' := 369) rfl ?_
        refine WP.lload at_369 rfl (pc' := 371) rfl ?_
        refine WP.callS (y := (⟨"com/example/apportion/apportion/IdleGapsFloorPinLaw", "in", "([JIIIJ)I"⟩ : MethodName)) (By := B7) (as := [(.ref s), (.int (3 : Int32)), (.int (1 : Int32)), (.int (2 : Int32)), (.long t)]) (rest := [(.int ((c0 + c1) + c2))]) at_371 (w41 hw) (w42 hw) (w33 hw) (w43 hw) (by decide) (in_met hw s (3 : Int32) (1 : Int32) (2 : Int32) t _ 3 x3 A_s rfl rfl) pd_4 rfl rfl rfl (by decide) (Nat.le_of_ble_eq_true rfl) (by decide) (by decide) (pc' := 374) rfl ?_
        rintro _ _ ⟨rfl, c3, rfl, hc3⟩
        show WP _ _ _ _ _ _ _ _ _ _ [(.int c3), (.int ((c0 + c1) + c2))]
        refine WP.iadd at_374 (pc' := 375) rfl ?_
        refine WP.aload at_375 rfl rfl (pc' := 377) rfl ?_
        refine WP.iconst at_377 (z := (4 : Int32)) rfl (pc' := 378) rfl ?_
        refine WP.iload at_378 rfl (pc' := 380) rfl ?_
        refine WP.iload at_380 rfl (pc' := 382) rfl ?_
        refine WP.lload at_382 rfl (pc' := 384) rfl ?_
        refine WP.callS (y := (⟨"com/example/apportion/apportion/IdleGapsFloorPinLaw", "in", "([JIIIJ)I"⟩ : MethodName)) (By := B7) (as := [(.ref s), (.int (4 : Int32)), (.int (1 : Int32)), (.int (2 : Int32)), (.long t)]) (rest := [(.int (((c0 + c1) + c2) + c3))]) at_384 (w41 hw) (w42 hw) (w33 hw) (w43 hw) (by decide) (in_met hw s (4 : Int32) (1 : Int32) (2 : Int32) t _ 4 x4 A_s rfl rfl) pd_4 rfl rfl rfl (by decide) (Nat.le_of_ble_eq_true rfl) (by decide) (by decide) (pc' := 387) rfl ?_
        rintro _ _ ⟨rfl, c4, rfl, hc4⟩
        show WP _ _ _ _ _ _ _ _ _ _ [(.int c4), (.int (((c0 + c1) + c2) + c3))]
        refine WP.iadd at_387 (pc' := 388) rfl ?_
        refine WP.iconst at_388 (z := (1 : Int32)) rfl (pc' := 389) rfl ?_
        refine WP.isub at_389 (pc' := 390) rfl ?_
        obtain ⟨ex, e_ex⟩ : ∃ z, z = (((((c0 + c1) + c2) + c3) + c4) - (1 : Int32)) := ⟨_, rfl⟩
        rw [← e_ex]
        refine WP.istore at_390 (pc' := 392) rfl (ls' := #[.val (.long a), .second, .val (.long t0), .second, .val (.long g), .second, .val (.int m), .val (.ref s), .val (.int (2 : Int32)), .val (.int (1 : Int32)), .val (.long t), .second, .val (.ref q), .val (.int (1 : Int32)), .val (.int ex)]) rfl ?_
        have f1 : (c0 + c1).toInt = c0.toInt + c1.toInt := by rw [own_iadd] <;> omega
        have f2 : (c0 + c1 + c2).toInt = c0.toInt + c1.toInt + c2.toInt := by rw [own_iadd] <;> omega
        have f3 : (c0 + c1 + c2 + c3).toInt = c0.toInt + c1.toInt + c2.toInt + c3.toInt := by rw [own_iadd] <;> omega
        have f4 : (c0 + c1 + c2 + c3 + c4).toInt = c0.toInt + c1.toInt + c2.toInt + c3.toInt + c4.toInt := by rw [own_iadd] <;> omega
        have f5 : ex.toInt = c0.toInt + c1.toInt + c2.toInt + c3.toInt + c4.toInt - 1 := by rw [e_ex, own_isub] <;> omega
        clear f1 f2 f3 f4
        refine WP.aload at_392 rfl rfl (pc' := 394) rfl ?_
        refine WP.lload at_394 rfl (pc' := 396) rfl ?_
        refine WP.callV (a := q) (z := (⟨"com/example/apportion/apportion/IdleGaps", "floor", "(J)I"⟩ : MethodName)) (Cl := "com/example/apportion/apportion/IdleGaps") (y := (⟨"com/example/apportion/apportion/IdleGaps", "floor", "(J)I"⟩ : MethodName)) (By := B8) (as := [(.long t)]) (rest := []) at_396 (w44 hw) (w45 hw) (w47 hw) (w46 hw) (w10 hw) (w48 hw) rfl rfl (by decide) O_q.1 (flo_1_2 hw q r0 e0 t x0 x1 y2 y3 O_q A_r0 (by omega)) pd_5 rfl rfl rfl (by decide) (Nat.le_of_ble_eq_true rfl) (by decide) (by decide) (pc' := 399) rfl ?_
        rintro _ _ ⟨rfl, fr, rfl, hf1, hf2, hf10⟩
        show WP _ _ _ _ _ _ _ _ _ _ [(.int fr)]
        refine WP.iload at_399 rfl (pc' := 401) rfl ?_
        refine WP.icmpNe at_401 (tgt := 408) (by decide) (pc' := 404) rfl (fun c401 => ?_) (fun c401 => ?_)
        ·
          refine WP.iconst at_408 (z := (0 : Int32)) rfl (pc' := 409) rfl ?_
          exact WP.retN at_409 (t := .boolean) rfl (by simp) (by decide) (by decide) (by exfalso; omega)
        refine WP.iconst at_404 (z := (1 : Int32)) rfl (pc' := 405) rfl ?_
        refine WP.goto at_405 (pc' := 409) (by decide) ?_
        exact WP.retN at_409 (t := .boolean) rfl (by simp) (by decide) (by decide) own_q1
      exfalso; omega
    exfalso; omega
  exfalso; omega
theorem law_173_3_0 {l : Launch} {Z : State} {a0 : Array Value} (hw : HW Z a0) {n0 : Nat} {h : Heap} (a t0 g : Int64) (m : Int32) (s : Addr) (x0 x1 x2 x3 x4 : Int64) (A_s : Av Z h s .long [(.long x0), (.long x1), (.long x2), (.long x3), (.long x4)]) (g_s : n0 ≤ s) (hs : x0.toInt < x1.toInt ∧ x1.toInt < x2.toInt ∧ x2.toInt < x3.toInt ∧ x3.toInt < x4.toInt) (t : Int64) : WP l B0 Z n0 (fun v h' => v = some (.int 1)) h 1 5 173 #[.val (.long a), .second, .val (.long t0), .second, .val (.long g), .second, .val (.int m), .val (.ref s), .val (.int (3 : Int32)), .val (.int (0 : Int32)), .val (.long t), .second, .unset, .unset, .unset] [] := by
  have k32_0 : (0 : Int32).toInt = 0 := by decide
  have k32_1 : (1 : Int32).toInt = 1 := by decide
  have k32_2 : (2 : Int32).toInt = 2 := by decide
  have k32_3 : (3 : Int32).toInt = 3 := by decide
  have k32_4 : (4 : Int32).toInt = 4 := by decide
  refine WP.newobj (lay := L_IG) (vs := [.null, .null, (.int 0), (.int 0)]) at_173 (w8 hw) (w9 hw) (w10 hw) (lay_IG hw) rfl (by decide) (by decide) (pc' := 176) rfl ?_
  intro q h1 eb_q g_q K2 O_q
  have lt_s_q : s < q := by rw [eb_q]; exact A_s.lt
  replace A_s := A_s.keep K2 own_nil
  refine WP.dup at_176 rfl (pc' := 177) rfl ?_
  refine WP.lloadN at_177 rfl (pc' := 178) rfl ?_
  have lts := A_s.lt
  have ltq := O_q.lt
  refine WP.callI (a := q) (y := (⟨"com/example/apportion/apportion/IdleGaps", "<init>", "(J)V"⟩ : MethodName)) (By := B2) (as := [(.long a)]) (rest := [(.ref q)]) at_178 (w11 hw) (w12 hw) (w10 hw) (w13 hw) rfl rfl (by decide) (ini_met hw q a g_q O_q) pd_3 rfl rfl rfl (by decide) (Nat.le_of_ble_eq_true rfl) (by decide) (by decide) (pc' := 181) rfl ?_
  rintro _ h3 ⟨rfl, r0, e0, y0, y1, y2, y3, es0, O_n, A_r0, A_e0, hes, g_r0, g_e0, hnd0, Kc, sz1, sz2, hfe⟩
  replace A_s := A_s.keep Kc (own_cons (by first | assumption | exact Ne.symm (by assumption) | exact Nat.ne_of_lt (by assumption) | exact Nat.ne_of_gt (by assumption)) own_nil)
  replace O_q := O_n
  have n_sr : s ≠ r0 := Nat.ne_of_lt (Nat.lt_of_lt_of_le lts sz1)
  have n_se : s ≠ e0 := Nat.ne_of_lt (Nat.lt_of_lt_of_le lts sz2)
  obtain ⟨n_qr, n_qe, n_re⟩ := id hnd0
  show WP _ _ _ _ _ _ _ _ _ _ [(.ref q)]
  refine WP.astore at_181 (pc' := 183) rfl rfl (ls' := #[.val (.long a), .second, .val (.long t0), .second, .val (.long g), .second, .val (.int m), .val (.ref s), .val (.int (3 : Int32)), .val (.int (0 : Int32)), .val (.long t), .second, .val (.ref q), .unset, .unset]) rfl ?_
  refine WP.aload at_183 rfl rfl (pc' := 185) rfl ?_
  refine WP.callV (a := q) (z := (⟨"com/example/apportion/apportion/IdleGaps", "clear", "()V"⟩ : MethodName)) (Cl := "com/example/apportion/apportion/IdleGaps") (y := (⟨"com/example/apportion/apportion/IdleGaps", "clear", "()V"⟩ : MethodName)) (By := B4) (as := []) (rest := []) at_185 (w26 hw) (w27 hw) (w29 hw) (w28 hw) (w10 hw) (w30 hw) rfl rfl (by decide) O_q.1 (clr_met hw q r0 e0 _ _ g_q O_q) pd_2 rfl rfl rfl (by decide) (Nat.le_of_ble_eq_true rfl) (by decide) (by decide) (pc' := 188) rfl ?_
  rintro _ h4 ⟨rfl, Kc2, O_n⟩
  replace A_s := A_s.keep Kc2 (own_cons (by first | assumption | exact Ne.symm (by assumption) | exact Nat.ne_of_lt (by assumption) | exact Nat.ne_of_gt (by assumption)) own_nil)
  replace O_q := O_n
  replace A_r0 := A_r0.keep Kc2 (own_cons (by first | assumption | exact Ne.symm (by assumption) | exact Nat.ne_of_lt (by assumption) | exact Nat.ne_of_gt (by assumption)) own_nil)
  replace A_e0 := A_e0.keep Kc2 (own_cons (by first | assumption | exact Ne.symm (by assumption) | exact Nat.ne_of_lt (by assumption) | exact Nat.ne_of_gt (by assumption)) own_nil)
  show WP _ _ _ _ _ _ _ _ _ _ []
  refine WP.iload at_188 rfl (pc' := 190) rfl ?_
  refine WP.ifLe at_190 (tgt := 210) (by decide) (pc' := 193) rfl (fun c190 => ?_) (fun c190 => ?_)
  · exfalso; omega
  refine WP.aload at_193 rfl rfl (pc' := 195) rfl ?_
  refine WP.aload at_195 rfl rfl (pc' := 197) rfl ?_
  refine WP.iconst at_197 (z := (0 : Int32)) rfl (pc' := 198) rfl ?_
  refine WP.laload 0 at_198 A_s (x := x0) rfl rfl (pc' := 199) rfl ?_
  refine WP.aload at_199 rfl rfl (pc' := 201) rfl ?_
  refine WP.iconst at_201 (z := (0 : Int32)) rfl (pc' := 202) rfl ?_
  refine WP.iload at_202 rfl (pc' := 204) rfl ?_
  refine WP.callS (y := (⟨"com/example/apportion/apportion/IdleGapsFloorPinLaw", "endOf", "([JII)J"⟩ : MethodName)) (By := B5) (as := [(.ref s), (.int (0 : Int32)), (.int (3 : Int32))]) (rest := [(.long x0), (.ref q)]) at_204 (w31 hw) (w32 hw) (w33 hw) (w34 hw) (by decide) (end_met hw s (0 : Int32) (3 : Int32) _ 0 x0 A_s rfl rfl) pd_6 rfl rfl rfl (by decide) (Nat.le_of_ble_eq_true rfl) (by decide) (by decide) (pc' := 207) rfl ?_
  rintro _ _ ⟨rfl, z0, rfl⟩
  show WP _ _ _ _ _ _ _ _ _ _ [(.long z0), (.long x0), (.ref q)]
  refine WP.callV (a := q) (z := (⟨"com/example/apportion/apportion/IdleGaps", "append", "(JJ)V"⟩ : MethodName)) (Cl := "com/example/apportion/apportion/IdleGaps") (y := (⟨"com/example/apportion/apportion/IdleGaps", "append", "(JJ)V"⟩ : MethodName)) (By := B6) (as := [(.long x0), (.long z0)]) (rest := []) at_207 (w35 hw) (w36 hw) (w38 hw) (w37 hw) (w10 hw) (w39 hw) rfl rfl (by decide) O_q.1 (app0_met hw q r0 e0 x0 z0 y0 y1 y2 y3 _ g_q g_r0 g_e0 O_q A_r0 A_e0 hes hfe hnd0) pd_7 rfl rfl rfl (by decide) (Nat.le_of_ble_eq_true rfl) (by decide) (by decide) (pc' := 210) rfl ?_
  rintro _ h6 ⟨rfl, es1, O_n, A_n, A_m, hes, hfe, Ka0⟩
  replace A_s := A_s.keep Ka0 (own_cons (by first | assumption | exact Ne.symm (by assumption) | exact Nat.ne_of_lt (by assumption) | exact Nat.ne_of_gt (by assumption)) (own_cons (by first | assumption | exact Ne.symm (by assumption) | exact Nat.ne_of_lt (by assumption) | exact Nat.ne_of_gt (by assumption)) (own_cons (by first | assumption | exact Ne.symm (by assumption) | exact Nat.ne_of_lt (by assumption) | exact Nat.ne_of_gt (by assumption)) own_nil)))
  replace O_q := O_n
  replace A_r0 := A_n
  replace A_e0 := A_m
  show WP _ _ _ _ _ _ _ _ _ _ []
  refine WP.iload at_210 rfl (pc' := 212) rfl ?_
  refine WP.iconst at_212 (z := (1 : Int32)) rfl (pc' := 213) rfl ?_
  refine WP.icmpLe at_213 (tgt := 233) (by decide) (pc' := 216) rfl (fun c213 => ?_) (fun c213 => ?_)
  · exfalso; omega
  refine WP.aload at_216 rfl rfl (pc' := 218) rfl ?_
  refine WP.aload at_218 rfl rfl (pc' := 220) rfl ?_
  refine WP.iconst at_220 (z := (1 : Int32)) rfl (pc' := 221) rfl ?_
  refine WP.laload 1 at_221 A_s (x := x1) rfl rfl (pc' := 222) rfl ?_
  refine WP.aload at_222 rfl rfl (pc' := 224) rfl ?_
  refine WP.iconst at_224 (z := (1 : Int32)) rfl (pc' := 225) rfl ?_
  refine WP.iload at_225 rfl (pc' := 227) rfl ?_
  refine WP.callS (y := (⟨"com/example/apportion/apportion/IdleGapsFloorPinLaw", "endOf", "([JII)J"⟩ : MethodName)) (By := B5) (as := [(.ref s), (.int (1 : Int32)), (.int (3 : Int32))]) (rest := [(.long x1), (.ref q)]) at_227 (w31 hw) (w32 hw) (w33 hw) (w34 hw) (by decide) (end_met hw s (1 : Int32) (3 : Int32) _ 1 x1 A_s rfl rfl) pd_6 rfl rfl rfl (by decide) (Nat.le_of_ble_eq_true rfl) (by decide) (by decide) (pc' := 230) rfl ?_
  rintro _ _ ⟨rfl, z1, rfl⟩
  show WP _ _ _ _ _ _ _ _ _ _ [(.long z1), (.long x1), (.ref q)]
  refine WP.callV (a := q) (z := (⟨"com/example/apportion/apportion/IdleGaps", "append", "(JJ)V"⟩ : MethodName)) (Cl := "com/example/apportion/apportion/IdleGaps") (y := (⟨"com/example/apportion/apportion/IdleGaps", "append", "(JJ)V"⟩ : MethodName)) (By := B6) (as := [(.long x1), (.long z1)]) (rest := []) at_230 (w35 hw) (w36 hw) (w38 hw) (w37 hw) (w10 hw) (w39 hw) rfl rfl (by decide) O_q.1 (app1_met hw q r0 e0 x1 z1 x0 y1 y2 y3 _ g_q g_r0 g_e0 O_q A_r0 A_e0 hes hfe hnd0) pd_7 rfl rfl rfl (by decide) (Nat.le_of_ble_eq_true rfl) (by decide) (by decide) (pc' := 233) rfl ?_
  rintro _ h8 ⟨rfl, es2, O_n, A_n, A_m, hes, hfe, Ka1⟩
  replace A_s := A_s.keep Ka1 (own_cons (by first | assumption | exact Ne.symm (by assumption) | exact Nat.ne_of_lt (by assumption) | exact Nat.ne_of_gt (by assumption)) (own_cons (by first | assumption | exact Ne.symm (by assumption) | exact Nat.ne_of_lt (by assumption) | exact Nat.ne_of_gt (by assumption)) (own_cons (by first | assumption | exact Ne.symm (by assumption) | exact Nat.ne_of_lt (by assumption) | exact Nat.ne_of_gt (by assumption)) own_nil)))
  replace O_q := O_n
  replace A_r0 := A_n
  replace A_e0 := A_m
  show WP _ _ _ _ _ _ _ _ _ _ []
  refine WP.iload at_233 rfl (pc' := 235) rfl ?_
  refine WP.iconst at_235 (z := (2 : Int32)) rfl (pc' := 236) rfl ?_
  refine WP.icmpLe at_236 (tgt := 256) (by decide) (pc' := 239) rfl (fun c236 => ?_) (fun c236 => ?_)
  · exfalso; omega
  refine WP.aload at_239 rfl rfl (pc' := 241) rfl ?_
  refine WP.aload at_241 rfl rfl (pc' := 243) rfl ?_
  refine WP.iconst at_243 (z := (2 : Int32)) rfl (pc' := 244) rfl ?_
  refine WP.laload 2 at_244 A_s (x := x2) rfl rfl (pc' := 245) rfl ?_
  refine WP.aload at_245 rfl rfl (pc' := 247) rfl ?_
  refine WP.iconst at_247 (z := (2 : Int32)) rfl (pc' := 248) rfl ?_
  refine WP.iload at_248 rfl (pc' := 250) rfl ?_
  refine WP.callS (y := (⟨"com/example/apportion/apportion/IdleGapsFloorPinLaw", "endOf", "([JII)J"⟩ : MethodName)) (By := B5) (as := [(.ref s), (.int (2 : Int32)), (.int (3 : Int32))]) (rest := [(.long x2), (.ref q)]) at_250 (w31 hw) (w32 hw) (w33 hw) (w34 hw) (by decide) (end_met hw s (2 : Int32) (3 : Int32) _ 2 x2 A_s rfl rfl) pd_6 rfl rfl rfl (by decide) (Nat.le_of_ble_eq_true rfl) (by decide) (by decide) (pc' := 253) rfl ?_
  rintro _ _ ⟨rfl, z2, rfl⟩
  show WP _ _ _ _ _ _ _ _ _ _ [(.long z2), (.long x2), (.ref q)]
  refine WP.callV (a := q) (z := (⟨"com/example/apportion/apportion/IdleGaps", "append", "(JJ)V"⟩ : MethodName)) (Cl := "com/example/apportion/apportion/IdleGaps") (y := (⟨"com/example/apportion/apportion/IdleGaps", "append", "(JJ)V"⟩ : MethodName)) (By := B6) (as := [(.long x2), (.long z2)]) (rest := []) at_253 (w35 hw) (w36 hw) (w38 hw) (w37 hw) (w10 hw) (w39 hw) rfl rfl (by decide) O_q.1 (app2_met hw q r0 e0 x2 z2 x0 x1 y2 y3 _ g_q g_r0 g_e0 O_q A_r0 A_e0 hes hfe hnd0) pd_7 rfl rfl rfl (by decide) (Nat.le_of_ble_eq_true rfl) (by decide) (by decide) (pc' := 256) rfl ?_
  rintro _ h10 ⟨rfl, es3, O_n, A_n, A_m, hes, hfe, Ka2⟩
  replace A_s := A_s.keep Ka2 (own_cons (by first | assumption | exact Ne.symm (by assumption) | exact Nat.ne_of_lt (by assumption) | exact Nat.ne_of_gt (by assumption)) (own_cons (by first | assumption | exact Ne.symm (by assumption) | exact Nat.ne_of_lt (by assumption) | exact Nat.ne_of_gt (by assumption)) (own_cons (by first | assumption | exact Ne.symm (by assumption) | exact Nat.ne_of_lt (by assumption) | exact Nat.ne_of_gt (by assumption)) own_nil)))
  replace O_q := O_n
  replace A_r0 := A_n
  replace A_e0 := A_m
  show WP _ _ _ _ _ _ _ _ _ _ []
  refine WP.iload at_256 rfl (pc' := 258) rfl ?_
  refine WP.iconst at_258 (z := (3 : Int32)) rfl (pc' := 259) rfl ?_
  refine WP.icmpLe at_259 (tgt := 279) (by decide) (pc' := 262) rfl (fun c259 => ?_) (fun c259 => ?_)
  ·
    refine WP.iload at_279 rfl (pc' := 281) rfl ?_
    refine WP.iconst at_281 (z := (4 : Int32)) rfl (pc' := 282) rfl ?_
    refine WP.icmpLe at_282 (tgt := 302) (by decide) (pc' := 285) rfl (fun c282 => ?_) (fun c282 => ?_)
    ·
      refine WP.iload at_302 rfl (pc' := 304) rfl ?_
      refine WP.ifEq at_304 (tgt := 312) (by decide) (pc' := 307) rfl (fun c304 => ?_) (fun c304 => ?_)
      ·
        refine WP.iload at_312 rfl (pc' := 314) rfl ?_
        refine WP.ifEq at_314 (tgt := 321) (by decide) (pc' := 317) rfl (fun c314 => ?_) (fun c314 => ?_)
        ·
          refine WP.iconst at_321 (z := (0 : Int32)) rfl (pc' := 322) rfl ?_
          refine WP.istore at_322 (pc' := 324) rfl (ls' := #[.val (.long a), .second, .val (.long t0), .second, .val (.long g), .second, .val (.int m), .val (.ref s), .val (.int (3 : Int32)), .val (.int (0 : Int32)), .val (.long t), .second, .val (.ref q), .val (.int (0 : Int32)), .unset]) rfl ?_
          refine WP.aload at_324 rfl rfl (pc' := 326) rfl ?_
          refine WP.iconst at_326 (z := (0 : Int32)) rfl (pc' := 327) rfl ?_
          refine WP.iload at_327 rfl (pc' := 329) rfl ?_
          refine WP.iload at_329 rfl (pc' := 331) rfl ?_
          refine WP.lload at_331 rfl (pc' := 333) rfl ?_
          refine WP.callS (y := (⟨"com/example/apportion/apportion/IdleGapsFloorPinLaw", "in", "([JIIIJ)I"⟩ : MethodName)) (By := B7) (as := [(.ref s), (.int (0 : Int32)), (.int (0 : Int32)), (.int (3 : Int32)), (.long t)]) (rest := []) at_333 (w41 hw) (w42 hw) (w33 hw) (w43 hw) (by decide) (in_met hw s (0 : Int32) (0 : Int32) (3 : Int32) t _ 0 x0 A_s rfl rfl) pd_4 rfl rfl rfl (by decide) (Nat.le_of_ble_eq_true rfl) (by decide) (by decide) (pc' := 336) rfl ?_
          rintro _ _ ⟨rfl, c0, rfl, hc0⟩
          show WP _ _ _ _ _ _ _ _ _ _ [(.int c0)]
          refine WP.aload at_336 rfl rfl (pc' := 338) rfl ?_
          refine WP.iconst at_338 (z := (1 : Int32)) rfl (pc' := 339) rfl ?_
          refine WP.iload at_339 rfl (pc' := 341) rfl ?_
          refine WP.iload at_341 rfl (pc' := 343) rfl ?_
          refine WP.lload at_343 rfl (pc' := 345) rfl ?_
          refine WP.callS (y := (⟨"com/example/apportion/apportion/IdleGapsFloorPinLaw", "in", "([JIIIJ)I"⟩ : MethodName)) (By := B7) (as := [(.ref s), (.int (1 : Int32)), (.int (0 : Int32)), (.int (3 : Int32)), (.long t)]) (rest := [(.int c0)]) at_345 (w41 hw) (w42 hw) (w33 hw) (w43 hw) (by decide) (in_met hw s (1 : Int32) (0 : Int32) (3 : Int32) t _ 1 x1 A_s rfl rfl) pd_4 rfl rfl rfl (by decide) (Nat.le_of_ble_eq_true rfl) (by decide) (by decide) (pc' := 348) rfl ?_
          rintro _ _ ⟨rfl, c1, rfl, hc1⟩
          show WP _ _ _ _ _ _ _ _ _ _ [(.int c1), (.int c0)]
          refine WP.iadd at_348 (pc' := 349) rfl ?_
          refine WP.aload at_349 rfl rfl (pc' := 351) rfl ?_
          refine WP.iconst at_351 (z := (2 : Int32)) rfl (pc' := 352) rfl ?_
          refine WP.iload at_352 rfl (pc' := 354) rfl ?_
          refine WP.iload at_354 rfl (pc' := 356) rfl ?_
          refine WP.lload at_356 rfl (pc' := 358) rfl ?_
          refine WP.callS (y := (⟨"com/example/apportion/apportion/IdleGapsFloorPinLaw", "in", "([JIIIJ)I"⟩ : MethodName)) (By := B7) (as := [(.ref s), (.int (2 : Int32)), (.int (0 : Int32)), (.int (3 : Int32)), (.long t)]) (rest := [(.int (c0 + c1))]) at_358 (w41 hw) (w42 hw) (w33 hw) (w43 hw) (by decide) (in_met hw s (2 : Int32) (0 : Int32) (3 : Int32) t _ 2 x2 A_s rfl rfl) pd_4 rfl rfl rfl (by decide) (Nat.le_of_ble_eq_true rfl) (by decide) (by decide) (pc' := 361) rfl ?_
          rintro _ _ ⟨rfl, c2, rfl, hc2⟩
          show WP _ _ _ _ _ _ _ _ _ _ [(.int c2), (.int (c0 + c1))]
          refine WP.iadd at_361 (pc' := 362) rfl ?_
          refine WP.aload at_362 rfl rfl (pc' := 364) rfl ?_
          refine WP.iconst at_364 (z := (3 : Int32)) rfl (pc' := 365) rfl ?_
          refine WP.iload at_365 rfl (pc' := 367) rfl ?_
          refine WP.iload at_367 rfl (pc' := 369) rfl ?_
          refine WP.lload at_369 rfl (pc' := 371) rfl ?_
          refine WP.callS (y := (⟨"com/example/apportion/apportion/IdleGapsFloorPinLaw", "in", "([JIIIJ)I"⟩ : MethodName)) (By := B7) (as := [(.ref s), (.int (3 : Int32)), (.int (0 : Int32)), (.int (3 : Int32)), (.long t)]) (rest := [(.int ((c0 + c1) + c2))]) at_371 (w41 hw) (w42 hw) (w33 hw) (w43 hw) (by decide) (in_met hw s (3 : Int32) (0 : Int32) (3 : Int32) t _ 3 x3 A_s rfl rfl) pd_4 rfl rfl rfl (by decide) (Nat.le_of_ble_eq_true rfl) (by decide) (by decide) (pc' := 374) rfl ?_
          rintro _ _ ⟨rfl, c3, rfl, hc3⟩
          show WP _ _ _ _ _ _ _ _ _ _ [(.int c3), (.int ((c0 + c1) + c2))]
          refine WP.iadd at_374 (pc' := 375) rfl ?_
          refine WP.aload at_375 rfl rfl (pc' := 377) rfl ?_
          refine WP.iconst at_377 (z := (4 : Int32)) rfl (pc' := 378) rfl ?_
          refine WP.iload at_378 rfl (pc' := 380) rfl ?_
          refine WP.iload at_380 rfl (pc' := 382) rfl ?_
          refine WP.lload at_382 rfl (pc' := 384) rfl ?_
          refine WP.callS (y := (⟨"com/example/apportion/apportion/IdleGapsFloorPinLaw", "in", "([JIIIJ)I"⟩ : MethodName)) (By := B7) (as := [(.ref s), (.int (4 : Int32)), (.int (0 : Int32)), (.int (3 : Int32)), (.long t)]) (rest := [(.int (((c0 + c1) + c2) + c3))]) at_384 (w41 hw) (w42 hw) (w33 hw) (w43 hw) (by decide) (in_met hw s (4 : Int32) (0 : Int32) (3 : Int32) t _ 4 x4 A_s rfl rfl) pd_4 rfl rfl rfl (by decide) (Nat.le_of_ble_eq_true rfl) (by decide) (by decide) (pc' := 387) rfl ?_
          rintro _ _ ⟨rfl, c4, rfl, hc4⟩
          show WP _ _ _ _ _ _ _ _ _ _ [(.int c4), (.int (((c0 + c1) + c2) + c3))]
          refine WP.iadd at_387 (pc' := 388) rfl ?_
          refine WP.iconst at_388 (z := (1 : Int32)) rfl (pc' := 389) rfl ?_
          refine WP.isub at_389 (pc' := 390) rfl ?_
          obtain ⟨ex, e_ex⟩ : ∃ z, z = (((((c0 + c1) + c2) + c3) + c4) - (1 : Int32)) := ⟨_, rfl⟩
          rw [← e_ex]
          refine WP.istore at_390 (pc' := 392) rfl (ls' := #[.val (.long a), .second, .val (.long t0), .second, .val (.long g), .second, .val (.int m), .val (.ref s), .val (.int (3 : Int32)), .val (.int (0 : Int32)), .val (.long t), .second, .val (.ref q), .val (.int (0 : Int32)), .val (.int ex)]) rfl ?_
          have f1 : (c0 + c1).toInt = c0.toInt + c1.toInt := by rw [own_iadd] <;> omega
          have f2 : (c0 + c1 + c2).toInt = c0.toInt + c1.toInt + c2.toInt := by rw [own_iadd] <;> omega
          have f3 : (c0 + c1 + c2 + c3).toInt = c0.toInt + c1.toInt + c2.toInt + c3.toInt := by rw [own_iadd] <;> omega
          have f4 : (c0 + c1 + c2 + c3 + c4).toInt = c0.toInt + c1.toInt + c2.toInt + c3.toInt + c4.toInt := by rw [own_iadd] <;> omega
          have f5 : ex.toInt = c0.toInt + c1.toInt + c2.toInt + c3.toInt + c4.toInt - 1 := by rw [e_ex, own_isub] <;> omega
          clear f1 f2 f3 f4
          refine WP.aload at_392 rfl rfl (pc' := 394) rfl ?_
          refine WP.lload at_394 rfl (pc' := 396) rfl ?_
          refine WP.callV (a := q) (z := (⟨"com/example/apportion/apportion/IdleGaps", "floor", "(J)I"⟩ : MethodName)) (Cl := "com/example/apportion/apportion/IdleGaps") (y := (⟨"com/example/apportion/apportion/IdleGaps", "floor", "(J)I"⟩ : MethodName)) (By := B8) (as := [(.long t)]) (rest := []) at_396 (w44 hw) (w45 hw) (w47 hw) (w46 hw) (w10 hw) (w48 hw) rfl rfl (by decide) O_q.1 (flo_0_3 hw q r0 e0 t x0 x1 x2 y3 O_q A_r0 ⟨by omega, by omega⟩) pd_5 rfl rfl rfl (by decide) (Nat.le_of_ble_eq_true rfl) (by decide) (by decide) (pc' := 399) rfl ?_
          rintro _ _ ⟨rfl, fr, rfl, hf1, hf2, hf10, hf11, hf12⟩
          show WP _ _ _ _ _ _ _ _ _ _ [(.int fr)]
          refine WP.iload at_399 rfl (pc' := 401) rfl ?_
          refine WP.icmpNe at_401 (tgt := 408) (by decide) (pc' := 404) rfl (fun c401 => ?_) (fun c401 => ?_)
          ·
            refine WP.iconst at_408 (z := (0 : Int32)) rfl (pc' := 409) rfl ?_
            exact WP.retN at_409 (t := .boolean) rfl (by simp) (by decide) (by decide) (by exfalso; omega)
          refine WP.iconst at_404 (z := (1 : Int32)) rfl (pc' := 405) rfl ?_
          refine WP.goto at_405 (pc' := 409) (by decide) ?_
          exact WP.retN at_409 (t := .boolean) rfl (by simp) (by decide) (by decide) own_q1
        exfalso; omega
      exfalso; omega
    exfalso; omega
  exfalso; omega
theorem law_173_3_1 {l : Launch} {Z : State} {a0 : Array Value} (hw : HW Z a0) {n0 : Nat} {h : Heap} (a t0 g : Int64) (m : Int32) (s : Addr) (x0 x1 x2 x3 x4 : Int64) (A_s : Av Z h s .long [(.long x0), (.long x1), (.long x2), (.long x3), (.long x4)]) (g_s : n0 ≤ s) (hs : x0.toInt < x1.toInt ∧ x1.toInt < x2.toInt ∧ x2.toInt < x3.toInt ∧ x3.toInt < x4.toInt) (t : Int64) : WP l B0 Z n0 (fun v h' => v = some (.int 1)) h 1 5 173 #[.val (.long a), .second, .val (.long t0), .second, .val (.long g), .second, .val (.int m), .val (.ref s), .val (.int (3 : Int32)), .val (.int (1 : Int32)), .val (.long t), .second, .unset, .unset, .unset] [] := by
  have k32_0 : (0 : Int32).toInt = 0 := by decide
  have k32_1 : (1 : Int32).toInt = 1 := by decide
  have k32_2 : (2 : Int32).toInt = 2 := by decide
  have k32_3 : (3 : Int32).toInt = 3 := by decide
  have k32_4 : (4 : Int32).toInt = 4 := by decide
  refine WP.newobj (lay := L_IG) (vs := [.null, .null, (.int 0), (.int 0)]) at_173 (w8 hw) (w9 hw) (w10 hw) (lay_IG hw) rfl (by decide) (by decide) (pc' := 176) rfl ?_
  intro q h1 eb_q g_q K2 O_q
  have lt_s_q : s < q := by rw [eb_q]; exact A_s.lt
  replace A_s := A_s.keep K2 own_nil
  refine WP.dup at_176 rfl (pc' := 177) rfl ?_
  refine WP.lloadN at_177 rfl (pc' := 178) rfl ?_
  have lts := A_s.lt
  have ltq := O_q.lt
  refine WP.callI (a := q) (y := (⟨"com/example/apportion/apportion/IdleGaps", "<init>", "(J)V"⟩ : MethodName)) (By := B2) (as := [(.long a)]) (rest := [(.ref q)]) at_178 (w11 hw) (w12 hw) (w10 hw) (w13 hw) rfl rfl (by decide) (ini_met hw q a g_q O_q) pd_3 rfl rfl rfl (by decide) (Nat.le_of_ble_eq_true rfl) (by decide) (by decide) (pc' := 181) rfl ?_
  rintro _ h3 ⟨rfl, r0, e0, y0, y1, y2, y3, es0, O_n, A_r0, A_e0, hes, g_r0, g_e0, hnd0, Kc, sz1, sz2, hfe⟩
  replace A_s := A_s.keep Kc (own_cons (by first | assumption | exact Ne.symm (by assumption) | exact Nat.ne_of_lt (by assumption) | exact Nat.ne_of_gt (by assumption)) own_nil)
  replace O_q := O_n
  have n_sr : s ≠ r0 := Nat.ne_of_lt (Nat.lt_of_lt_of_le lts sz1)
  have n_se : s ≠ e0 := Nat.ne_of_lt (Nat.lt_of_lt_of_le lts sz2)
  obtain ⟨n_qr, n_qe, n_re⟩ := id hnd0
  show WP _ _ _ _ _ _ _ _ _ _ [(.ref q)]
  refine WP.astore at_181 (pc' := 183) rfl rfl (ls' := #[.val (.long a), .second, .val (.long t0), .second, .val (.long g), .second, .val (.int m), .val (.ref s), .val (.int (3 : Int32)), .val (.int (1 : Int32)), .val (.long t), .second, .val (.ref q), .unset, .unset]) rfl ?_
  refine WP.aload at_183 rfl rfl (pc' := 185) rfl ?_
  refine WP.callV (a := q) (z := (⟨"com/example/apportion/apportion/IdleGaps", "clear", "()V"⟩ : MethodName)) (Cl := "com/example/apportion/apportion/IdleGaps") (y := (⟨"com/example/apportion/apportion/IdleGaps", "clear", "()V"⟩ : MethodName)) (By := B4) (as := []) (rest := []) at_185 (w26 hw) (w27 hw) (w29 hw) (w28 hw) (w10 hw) (w30 hw) rfl rfl (by decide) O_q.1 (clr_met hw q r0 e0 _ _ g_q O_q) pd_2 rfl rfl rfl (by decide) (Nat.le_of_ble_eq_true rfl) (by decide) (by decide) (pc' := 188) rfl ?_
  rintro _ h4 ⟨rfl, Kc2, O_n⟩
  replace A_s := A_s.keep Kc2 (own_cons (by first | assumption | exact Ne.symm (by assumption) | exact Nat.ne_of_lt (by assumption) | exact Nat.ne_of_gt (by assumption)) own_nil)
  replace O_q := O_n
  replace A_r0 := A_r0.keep Kc2 (own_cons (by first | assumption | exact Ne.symm (by assumption) | exact Nat.ne_of_lt (by assumption) | exact Nat.ne_of_gt (by assumption)) own_nil)
  replace A_e0 := A_e0.keep Kc2 (own_cons (by first | assumption | exact Ne.symm (by assumption) | exact Nat.ne_of_lt (by assumption) | exact Nat.ne_of_gt (by assumption)) own_nil)
  show WP _ _ _ _ _ _ _ _ _ _ []
  refine WP.iload at_188 rfl (pc' := 190) rfl ?_
  refine WP.ifLe at_190 (tgt := 210) (by decide) (pc' := 193) rfl (fun c190 => ?_) (fun c190 => ?_)
  · exfalso; omega
  refine WP.aload at_193 rfl rfl (pc' := 195) rfl ?_
  refine WP.aload at_195 rfl rfl (pc' := 197) rfl ?_
  refine WP.iconst at_197 (z := (0 : Int32)) rfl (pc' := 198) rfl ?_
  refine WP.laload 0 at_198 A_s (x := x0) rfl rfl (pc' := 199) rfl ?_
  refine WP.aload at_199 rfl rfl (pc' := 201) rfl ?_
  refine WP.iconst at_201 (z := (0 : Int32)) rfl (pc' := 202) rfl ?_
  refine WP.iload at_202 rfl (pc' := 204) rfl ?_
  refine WP.callS (y := (⟨"com/example/apportion/apportion/IdleGapsFloorPinLaw", "endOf", "([JII)J"⟩ : MethodName)) (By := B5) (as := [(.ref s), (.int (0 : Int32)), (.int (3 : Int32))]) (rest := [(.long x0), (.ref q)]) at_204 (w31 hw) (w32 hw) (w33 hw) (w34 hw) (by decide) (end_met hw s (0 : Int32) (3 : Int32) _ 0 x0 A_s rfl rfl) pd_6 rfl rfl rfl (by decide) (Nat.le_of_ble_eq_true rfl) (by decide) (by decide) (pc' := 207) rfl ?_
  rintro _ _ ⟨rfl, z0, rfl⟩
  show WP _ _ _ _ _ _ _ _ _ _ [(.long z0), (.long x0), (.ref q)]
  refine WP.callV (a := q) (z := (⟨"com/example/apportion/apportion/IdleGaps", "append", "(JJ)V"⟩ : MethodName)) (Cl := "com/example/apportion/apportion/IdleGaps") (y := (⟨"com/example/apportion/apportion/IdleGaps", "append", "(JJ)V"⟩ : MethodName)) (By := B6) (as := [(.long x0), (.long z0)]) (rest := []) at_207 (w35 hw) (w36 hw) (w38 hw) (w37 hw) (w10 hw) (w39 hw) rfl rfl (by decide) O_q.1 (app0_met hw q r0 e0 x0 z0 y0 y1 y2 y3 _ g_q g_r0 g_e0 O_q A_r0 A_e0 hes hfe hnd0) pd_7 rfl rfl rfl (by decide) (Nat.le_of_ble_eq_true rfl) (by decide) (by decide) (pc' := 210) rfl ?_
  rintro _ h6 ⟨rfl, es1, O_n, A_n, A_m, hes, hfe, Ka0⟩
  replace A_s := A_s.keep Ka0 (own_cons (by first | assumption | exact Ne.symm (by assumption) | exact Nat.ne_of_lt (by assumption) | exact Nat.ne_of_gt (by assumption)) (own_cons (by first | assumption | exact Ne.symm (by assumption) | exact Nat.ne_of_lt (by assumption) | exact Nat.ne_of_gt (by assumption)) (own_cons (by first | assumption | exact Ne.symm (by assumption) | exact Nat.ne_of_lt (by assumption) | exact Nat.ne_of_gt (by assumption)) own_nil)))
  replace O_q := O_n
  replace A_r0 := A_n
  replace A_e0 := A_m
  show WP _ _ _ _ _ _ _ _ _ _ []
  refine WP.iload at_210 rfl (pc' := 212) rfl ?_
  refine WP.iconst at_212 (z := (1 : Int32)) rfl (pc' := 213) rfl ?_
  refine WP.icmpLe at_213 (tgt := 233) (by decide) (pc' := 216) rfl (fun c213 => ?_) (fun c213 => ?_)
  · exfalso; omega
  refine WP.aload at_216 rfl rfl (pc' := 218) rfl ?_
  refine WP.aload at_218 rfl rfl (pc' := 220) rfl ?_
  refine WP.iconst at_220 (z := (1 : Int32)) rfl (pc' := 221) rfl ?_
  refine WP.laload 1 at_221 A_s (x := x1) rfl rfl (pc' := 222) rfl ?_
  refine WP.aload at_222 rfl rfl (pc' := 224) rfl ?_
  refine WP.iconst at_224 (z := (1 : Int32)) rfl (pc' := 225) rfl ?_
  refine WP.iload at_225 rfl (pc' := 227) rfl ?_
  refine WP.callS (y := (⟨"com/example/apportion/apportion/IdleGapsFloorPinLaw", "endOf", "([JII)J"⟩ : MethodName)) (By := B5) (as := [(.ref s), (.int (1 : Int32)), (.int (3 : Int32))]) (rest := [(.long x1), (.ref q)]) at_227 (w31 hw) (w32 hw) (w33 hw) (w34 hw) (by decide) (end_met hw s (1 : Int32) (3 : Int32) _ 1 x1 A_s rfl rfl) pd_6 rfl rfl rfl (by decide) (Nat.le_of_ble_eq_true rfl) (by decide) (by decide) (pc' := 230) rfl ?_
  rintro _ _ ⟨rfl, z1, rfl⟩
  show WP _ _ _ _ _ _ _ _ _ _ [(.long z1), (.long x1), (.ref q)]
  refine WP.callV (a := q) (z := (⟨"com/example/apportion/apportion/IdleGaps", "append", "(JJ)V"⟩ : MethodName)) (Cl := "com/example/apportion/apportion/IdleGaps") (y := (⟨"com/example/apportion/apportion/IdleGaps", "append", "(JJ)V"⟩ : MethodName)) (By := B6) (as := [(.long x1), (.long z1)]) (rest := []) at_230 (w35 hw) (w36 hw) (w38 hw) (w37 hw) (w10 hw) (w39 hw) rfl rfl (by decide) O_q.1 (app1_met hw q r0 e0 x1 z1 x0 y1 y2 y3 _ g_q g_r0 g_e0 O_q A_r0 A_e0 hes hfe hnd0) pd_7 rfl rfl rfl (by decide) (Nat.le_of_ble_eq_true rfl) (by decide) (by decide) (pc' := 233) rfl ?_
  rintro _ h8 ⟨rfl, es2, O_n, A_n, A_m, hes, hfe, Ka1⟩
  replace A_s := A_s.keep Ka1 (own_cons (by first | assumption | exact Ne.symm (by assumption) | exact Nat.ne_of_lt (by assumption) | exact Nat.ne_of_gt (by assumption)) (own_cons (by first | assumption | exact Ne.symm (by assumption) | exact Nat.ne_of_lt (by assumption) | exact Nat.ne_of_gt (by assumption)) (own_cons (by first | assumption | exact Ne.symm (by assumption) | exact Nat.ne_of_lt (by assumption) | exact Nat.ne_of_gt (by assumption)) own_nil)))
  replace O_q := O_n
  replace A_r0 := A_n
  replace A_e0 := A_m
  show WP _ _ _ _ _ _ _ _ _ _ []
  refine WP.iload at_233 rfl (pc' := 235) rfl ?_
  refine WP.iconst at_235 (z := (2 : Int32)) rfl (pc' := 236) rfl ?_
  refine WP.icmpLe at_236 (tgt := 256) (by decide) (pc' := 239) rfl (fun c236 => ?_) (fun c236 => ?_)
  · exfalso; omega
  refine WP.aload at_239 rfl rfl (pc' := 241) rfl ?_
  refine WP.aload at_241 rfl rfl (pc' := 243) rfl ?_
  refine WP.iconst at_243 (z := (2 : Int32)) rfl (pc' := 244) rfl ?_
  refine WP.laload 2 at_244 A_s (x := x2) rfl rfl (pc' := 245) rfl ?_
  refine WP.aload at_245 rfl rfl (pc' := 247) rfl ?_
  refine WP.iconst at_247 (z := (2 : Int32)) rfl (pc' := 248) rfl ?_
  refine WP.iload at_248 rfl (pc' := 250) rfl ?_
  refine WP.callS (y := (⟨"com/example/apportion/apportion/IdleGapsFloorPinLaw", "endOf", "([JII)J"⟩ : MethodName)) (By := B5) (as := [(.ref s), (.int (2 : Int32)), (.int (3 : Int32))]) (rest := [(.long x2), (.ref q)]) at_250 (w31 hw) (w32 hw) (w33 hw) (w34 hw) (by decide) (end_met hw s (2 : Int32) (3 : Int32) _ 2 x2 A_s rfl rfl) pd_6 rfl rfl rfl (by decide) (Nat.le_of_ble_eq_true rfl) (by decide) (by decide) (pc' := 253) rfl ?_
  rintro _ _ ⟨rfl, z2, rfl⟩
  show WP _ _ _ _ _ _ _ _ _ _ [(.long z2), (.long x2), (.ref q)]
  refine WP.callV (a := q) (z := (⟨"com/example/apportion/apportion/IdleGaps", "append", "(JJ)V"⟩ : MethodName)) (Cl := "com/example/apportion/apportion/IdleGaps") (y := (⟨"com/example/apportion/apportion/IdleGaps", "append", "(JJ)V"⟩ : MethodName)) (By := B6) (as := [(.long x2), (.long z2)]) (rest := []) at_253 (w35 hw) (w36 hw) (w38 hw) (w37 hw) (w10 hw) (w39 hw) rfl rfl (by decide) O_q.1 (app2_met hw q r0 e0 x2 z2 x0 x1 y2 y3 _ g_q g_r0 g_e0 O_q A_r0 A_e0 hes hfe hnd0) pd_7 rfl rfl rfl (by decide) (Nat.le_of_ble_eq_true rfl) (by decide) (by decide) (pc' := 256) rfl ?_
  rintro _ h10 ⟨rfl, es3, O_n, A_n, A_m, hes, hfe, Ka2⟩
  replace A_s := A_s.keep Ka2 (own_cons (by first | assumption | exact Ne.symm (by assumption) | exact Nat.ne_of_lt (by assumption) | exact Nat.ne_of_gt (by assumption)) (own_cons (by first | assumption | exact Ne.symm (by assumption) | exact Nat.ne_of_lt (by assumption) | exact Nat.ne_of_gt (by assumption)) (own_cons (by first | assumption | exact Ne.symm (by assumption) | exact Nat.ne_of_lt (by assumption) | exact Nat.ne_of_gt (by assumption)) own_nil)))
  replace O_q := O_n
  replace A_r0 := A_n
  replace A_e0 := A_m
  show WP _ _ _ _ _ _ _ _ _ _ []
  refine WP.iload at_256 rfl (pc' := 258) rfl ?_
  refine WP.iconst at_258 (z := (3 : Int32)) rfl (pc' := 259) rfl ?_
  refine WP.icmpLe at_259 (tgt := 279) (by decide) (pc' := 262) rfl (fun c259 => ?_) (fun c259 => ?_)
  ·
    refine WP.iload at_279 rfl (pc' := 281) rfl ?_
    refine WP.iconst at_281 (z := (4 : Int32)) rfl (pc' := 282) rfl ?_
    refine WP.icmpLe at_282 (tgt := 302) (by decide) (pc' := 285) rfl (fun c282 => ?_) (fun c282 => ?_)
    ·
      refine WP.iload at_302 rfl (pc' := 304) rfl ?_
      refine WP.ifEq at_304 (tgt := 312) (by decide) (pc' := 307) rfl (fun c304 => ?_) (fun c304 => ?_)
      · exfalso; omega
      refine WP.aload at_307 rfl rfl (pc' := 309) rfl ?_
      refine WP.callV (a := q) (z := (⟨"com/example/apportion/apportion/IdleGaps", "dropFirst", "()V"⟩ : MethodName)) (Cl := "com/example/apportion/apportion/IdleGaps") (y := (⟨"com/example/apportion/apportion/IdleGaps", "dropFirst", "()V"⟩ : MethodName)) (By := B9) (as := []) (rest := []) at_309 (w49 hw) (w50 hw) (w52 hw) (w51 hw) (w10 hw) (w53 hw) rfl rfl (by decide) O_q.1 (drp_met hw q r0 e0 _ g_q O_q) pd_2 rfl rfl rfl (by decide) (Nat.le_of_ble_eq_true rfl) (by decide) (by decide) (pc' := 312) rfl ?_
      rintro _ h11 ⟨rfl, Kd, O_n⟩
      replace A_s := A_s.keep Kd (own_cons (by first | assumption | exact Ne.symm (by assumption) | exact Nat.ne_of_lt (by assumption) | exact Nat.ne_of_gt (by assumption)) own_nil)
      replace O_q := O_n
      replace A_r0 := A_r0.keep Kd (own_cons (by first | assumption | exact Ne.symm (by assumption) | exact Nat.ne_of_lt (by assumption) | exact Nat.ne_of_gt (by assumption)) own_nil)
      show WP _ _ _ _ _ _ _ _ _ _ []
      refine WP.iload at_312 rfl (pc' := 314) rfl ?_
      refine WP.ifEq at_314 (tgt := 321) (by decide) (pc' := 317) rfl (fun c314 => ?_) (fun c314 => ?_)
      · exfalso; omega
      refine WP.iconst at_317 (z := (1 : Int32)) rfl (pc' := 318) rfl ?_
      refine WP.goto at_318 (pc' := 322) (by decide) ?_
      refine WP.istore at_322 (pc' := 324) rfl (ls' := #[.val (.long a), .second, .val (.long t0), .second, .val (.long g), .second, .val (.int m), .val (.ref s), .val (.int (3 : Int32)), .val (.int (1 : Int32)), .val (.long t), .second, .val (.ref q), .val (.int (1 : Int32)), .unset]) rfl ?_
      refine WP.aload at_324 rfl rfl (pc' := 326) rfl ?_
      refine WP.iconst at_326 (z := (0 : Int32)) rfl (pc' := 327) rfl ?_
      refine WP.iload at_327 rfl (pc' := 329) rfl ?_
      refine WP.iload at_329 rfl (pc' := 331) rfl ?_
      refine WP.lload at_331 rfl (pc' := 333) rfl ?_
      refine WP.callS (y := (⟨"com/example/apportion/apportion/IdleGapsFloorPinLaw", "in", "([JIIIJ)I"⟩ : MethodName)) (By := B7) (as := [(.ref s), (.int (0 : Int32)), (.int (1 : Int32)), (.int (3 : Int32)), (.long t)]) (rest := []) at_333 (w41 hw) (w42 hw) (w33 hw) (w43 hw) (by decide) (in_met hw s (0 : Int32) (1 : Int32) (3 : Int32) t _ 0 x0 A_s rfl rfl) pd_4 rfl rfl rfl (by decide) (Nat.le_of_ble_eq_true rfl) (by decide) (by decide) (pc' := 336) rfl ?_
      rintro _ _ ⟨rfl, c0, rfl, hc0⟩
      show WP _ _ _ _ _ _ _ _ _ _ [(.int c0)]
      refine WP.aload at_336 rfl rfl (pc' := 338) rfl ?_
      refine WP.iconst at_338 (z := (1 : Int32)) rfl (pc' := 339) rfl ?_
      refine WP.iload at_339 rfl (pc' := 341) rfl ?_
      refine WP.iload at_341 rfl (pc' := 343) rfl ?_
      refine WP.lload at_343 rfl (pc' := 345) rfl ?_
      refine WP.callS (y := (⟨"com/example/apportion/apportion/IdleGapsFloorPinLaw", "in", "([JIIIJ)I"⟩ : MethodName)) (By := B7) (as := [(.ref s), (.int (1 : Int32)), (.int (1 : Int32)), (.int (3 : Int32)), (.long t)]) (rest := [(.int c0)]) at_345 (w41 hw) (w42 hw) (w33 hw) (w43 hw) (by decide) (in_met hw s (1 : Int32) (1 : Int32) (3 : Int32) t _ 1 x1 A_s rfl rfl) pd_4 rfl rfl rfl (by decide) (Nat.le_of_ble_eq_true rfl) (by decide) (by decide) (pc' := 348) rfl ?_
      rintro _ _ ⟨rfl, c1, rfl, hc1⟩
      show WP _ _ _ _ _ _ _ _ _ _ [(.int c1), (.int c0)]
      refine WP.iadd at_348 (pc' := 349) rfl ?_
      refine WP.aload at_349 rfl rfl (pc' := 351) rfl ?_
      refine WP.iconst at_351 (z := (2 : Int32)) rfl (pc' := 352) rfl ?_
      refine WP.iload at_352 rfl (pc' := 354) rfl ?_
      refine WP.iload at_354 rfl (pc' := 356) rfl ?_
      refine WP.lload at_356 rfl (pc' := 358) rfl ?_
      refine WP.callS (y := (⟨"com/example/apportion/apportion/IdleGapsFloorPinLaw", "in", "([JIIIJ)I"⟩ : MethodName)) (By := B7) (as := [(.ref s), (.int (2 : Int32)), (.int (1 : Int32)), (.int (3 : Int32)), (.long t)]) (rest := [(.int (c0 + c1))]) at_358 (w41 hw) (w42 hw) (w33 hw) (w43 hw) (by decide) (in_met hw s (2 : Int32) (1 : Int32) (3 : Int32) t _ 2 x2 A_s rfl rfl) pd_4 rfl rfl rfl (by decide) (Nat.le_of_ble_eq_true rfl) (by decide) (by decide) (pc' := 361) rfl ?_
      rintro _ _ ⟨rfl, c2, rfl, hc2⟩
      show WP _ _ _ _ _ _ _ _ _ _ [(.int c2), (.int (c0 + c1))]
      refine WP.iadd at_361 (pc' := 362) rfl ?_
      refine WP.aload at_362 rfl rfl (pc' := 364) rfl ?_
      refine WP.iconst at_364 (z := (3 : Int32)) rfl (pc' := 365) rfl ?_
      refine WP.iload at_365 rfl (pc' := 367) rfl ?_
      refine WP.iload at_367 rfl (pc' := 369) rfl ?_
      refine WP.lload at_369 rfl (pc' := 371) rfl ?_
      refine WP.callS (y := (⟨"com/example/apportion/apportion/IdleGapsFloorPinLaw", "in", "([JIIIJ)I"⟩ : MethodName)) (By := B7) (as := [(.ref s), (.int (3 : Int32)), (.int (1 : Int32)), (.int (3 : Int32)), (.long t)]) (rest := [(.int ((c0 + c1) + c2))]) at_371 (w41 hw) (w42 hw) (w33 hw) (w43 hw) (by decide) (in_met hw s (3 : Int32) (1 : Int32) (3 : Int32) t _ 3 x3 A_s rfl rfl) pd_4 rfl rfl rfl (by decide) (Nat.le_of_ble_eq_true rfl) (by decide) (by decide) (pc' := 374) rfl ?_
      rintro _ _ ⟨rfl, c3, rfl, hc3⟩
      show WP _ _ _ _ _ _ _ _ _ _ [(.int c3), (.int ((c0 + c1) + c2))]
      refine WP.iadd at_374 (pc' := 375) rfl ?_
      refine WP.aload at_375 rfl rfl (pc' := 377) rfl ?_
      refine WP.iconst at_377 (z := (4 : Int32)) rfl (pc' := 378) rfl ?_
      refine WP.iload at_378 rfl (pc' := 380) rfl ?_
      refine WP.iload at_380 rfl (pc' := 382) rfl ?_
      refine WP.lload at_382 rfl (pc' := 384) rfl ?_
      refine WP.callS (y := (⟨"com/example/apportion/apportion/IdleGapsFloorPinLaw", "in", "([JIIIJ)I"⟩ : MethodName)) (By := B7) (as := [(.ref s), (.int (4 : Int32)), (.int (1 : Int32)), (.int (3 : Int32)), (.long t)]) (rest := [(.int (((c0 + c1) + c2) + c3))]) at_384 (w41 hw) (w42 hw) (w33 hw) (w43 hw) (by decide) (in_met hw s (4 : Int32) (1 : Int32) (3 : Int32) t _ 4 x4 A_s rfl rfl) pd_4 rfl rfl rfl (by decide) (Nat.le_of_ble_eq_true rfl) (by decide) (by decide) (pc' := 387) rfl ?_
      rintro _ _ ⟨rfl, c4, rfl, hc4⟩
      show WP _ _ _ _ _ _ _ _ _ _ [(.int c4), (.int (((c0 + c1) + c2) + c3))]
      refine WP.iadd at_387 (pc' := 388) rfl ?_
      refine WP.iconst at_388 (z := (1 : Int32)) rfl (pc' := 389) rfl ?_
      refine WP.isub at_389 (pc' := 390) rfl ?_
      obtain ⟨ex, e_ex⟩ : ∃ z, z = (((((c0 + c1) + c2) + c3) + c4) - (1 : Int32)) := ⟨_, rfl⟩
      rw [← e_ex]
      refine WP.istore at_390 (pc' := 392) rfl (ls' := #[.val (.long a), .second, .val (.long t0), .second, .val (.long g), .second, .val (.int m), .val (.ref s), .val (.int (3 : Int32)), .val (.int (1 : Int32)), .val (.long t), .second, .val (.ref q), .val (.int (1 : Int32)), .val (.int ex)]) rfl ?_
      have f1 : (c0 + c1).toInt = c0.toInt + c1.toInt := by rw [own_iadd] <;> omega
      have f2 : (c0 + c1 + c2).toInt = c0.toInt + c1.toInt + c2.toInt := by rw [own_iadd] <;> omega
      have f3 : (c0 + c1 + c2 + c3).toInt = c0.toInt + c1.toInt + c2.toInt + c3.toInt := by rw [own_iadd] <;> omega
      have f4 : (c0 + c1 + c2 + c3 + c4).toInt = c0.toInt + c1.toInt + c2.toInt + c3.toInt + c4.toInt := by rw [own_iadd] <;> omega
      have f5 : ex.toInt = c0.toInt + c1.toInt + c2.toInt + c3.toInt + c4.toInt - 1 := by rw [e_ex, own_isub] <;> omega
      clear f1 f2 f3 f4
      refine WP.aload at_392 rfl rfl (pc' := 394) rfl ?_
      refine WP.lload at_394 rfl (pc' := 396) rfl ?_
      refine WP.callV (a := q) (z := (⟨"com/example/apportion/apportion/IdleGaps", "floor", "(J)I"⟩ : MethodName)) (Cl := "com/example/apportion/apportion/IdleGaps") (y := (⟨"com/example/apportion/apportion/IdleGaps", "floor", "(J)I"⟩ : MethodName)) (By := B8) (as := [(.long t)]) (rest := []) at_396 (w44 hw) (w45 hw) (w47 hw) (w46 hw) (w10 hw) (w48 hw) rfl rfl (by decide) O_q.1 (flo_1_3 hw q r0 e0 t x0 x1 x2 y3 O_q A_r0 ⟨by omega, by omega⟩) pd_5 rfl rfl rfl (by decide) (Nat.le_of_ble_eq_true rfl) (by decide) (by decide) (pc' := 399) rfl ?_
      rintro _ _ ⟨rfl, fr, rfl, hf1, hf2, hf10, hf11⟩
      show WP _ _ _ _ _ _ _ _ _ _ [(.int fr)]
      refine WP.iload at_399 rfl (pc' := 401) rfl ?_
      refine WP.icmpNe at_401 (tgt := 408) (by decide) (pc' := 404) rfl (fun c401 => ?_) (fun c401 => ?_)
      ·
        refine WP.iconst at_408 (z := (0 : Int32)) rfl (pc' := 409) rfl ?_
        exact WP.retN at_409 (t := .boolean) rfl (by simp) (by decide) (by decide) (by exfalso; omega)
      refine WP.iconst at_404 (z := (1 : Int32)) rfl (pc' := 405) rfl ?_
      refine WP.goto at_405 (pc' := 409) (by decide) ?_
      exact WP.retN at_409 (t := .boolean) rfl (by simp) (by decide) (by decide) own_q1
    exfalso; omega
  exfalso; omega
theorem law_173_4_0 {l : Launch} {Z : State} {a0 : Array Value} (hw : HW Z a0) {n0 : Nat} {h : Heap} (a t0 g : Int64) (m : Int32) (s : Addr) (x0 x1 x2 x3 x4 : Int64) (A_s : Av Z h s .long [(.long x0), (.long x1), (.long x2), (.long x3), (.long x4)]) (g_s : n0 ≤ s) (hs : x0.toInt < x1.toInt ∧ x1.toInt < x2.toInt ∧ x2.toInt < x3.toInt ∧ x3.toInt < x4.toInt) (t : Int64) : WP l B0 Z n0 (fun v h' => v = some (.int 1)) h 1 5 173 #[.val (.long a), .second, .val (.long t0), .second, .val (.long g), .second, .val (.int m), .val (.ref s), .val (.int (4 : Int32)), .val (.int (0 : Int32)), .val (.long t), .second, .unset, .unset, .unset] [] := by
  have k32_0 : (0 : Int32).toInt = 0 := by decide
  have k32_1 : (1 : Int32).toInt = 1 := by decide
  have k32_2 : (2 : Int32).toInt = 2 := by decide
  have k32_3 : (3 : Int32).toInt = 3 := by decide
  have k32_4 : (4 : Int32).toInt = 4 := by decide
  refine WP.newobj (lay := L_IG) (vs := [.null, .null, (.int 0), (.int 0)]) at_173 (w8 hw) (w9 hw) (w10 hw) (lay_IG hw) rfl (by decide) (by decide) (pc' := 176) rfl ?_
  intro q h1 eb_q g_q K2 O_q
  have lt_s_q : s < q := by rw [eb_q]; exact A_s.lt
  replace A_s := A_s.keep K2 own_nil
  refine WP.dup at_176 rfl (pc' := 177) rfl ?_
  refine WP.lloadN at_177 rfl (pc' := 178) rfl ?_
  have lts := A_s.lt
  have ltq := O_q.lt
  refine WP.callI (a := q) (y := (⟨"com/example/apportion/apportion/IdleGaps", "<init>", "(J)V"⟩ : MethodName)) (By := B2) (as := [(.long a)]) (rest := [(.ref q)]) at_178 (w11 hw) (w12 hw) (w10 hw) (w13 hw) rfl rfl (by decide) (ini_met hw q a g_q O_q) pd_3 rfl rfl rfl (by decide) (Nat.le_of_ble_eq_true rfl) (by decide) (by decide) (pc' := 181) rfl ?_
  rintro _ h3 ⟨rfl, r0, e0, y0, y1, y2, y3, es0, O_n, A_r0, A_e0, hes, g_r0, g_e0, hnd0, Kc, sz1, sz2, hfe⟩
  replace A_s := A_s.keep Kc (own_cons (by first | assumption | exact Ne.symm (by assumption) | exact Nat.ne_of_lt (by assumption) | exact Nat.ne_of_gt (by assumption)) own_nil)
  replace O_q := O_n
  have n_sr : s ≠ r0 := Nat.ne_of_lt (Nat.lt_of_lt_of_le lts sz1)
  have n_se : s ≠ e0 := Nat.ne_of_lt (Nat.lt_of_lt_of_le lts sz2)
  obtain ⟨n_qr, n_qe, n_re⟩ := id hnd0
  show WP _ _ _ _ _ _ _ _ _ _ [(.ref q)]
  refine WP.astore at_181 (pc' := 183) rfl rfl (ls' := #[.val (.long a), .second, .val (.long t0), .second, .val (.long g), .second, .val (.int m), .val (.ref s), .val (.int (4 : Int32)), .val (.int (0 : Int32)), .val (.long t), .second, .val (.ref q), .unset, .unset]) rfl ?_
  refine WP.aload at_183 rfl rfl (pc' := 185) rfl ?_
  refine WP.callV (a := q) (z := (⟨"com/example/apportion/apportion/IdleGaps", "clear", "()V"⟩ : MethodName)) (Cl := "com/example/apportion/apportion/IdleGaps") (y := (⟨"com/example/apportion/apportion/IdleGaps", "clear", "()V"⟩ : MethodName)) (By := B4) (as := []) (rest := []) at_185 (w26 hw) (w27 hw) (w29 hw) (w28 hw) (w10 hw) (w30 hw) rfl rfl (by decide) O_q.1 (clr_met hw q r0 e0 _ _ g_q O_q) pd_2 rfl rfl rfl (by decide) (Nat.le_of_ble_eq_true rfl) (by decide) (by decide) (pc' := 188) rfl ?_
  rintro _ h4 ⟨rfl, Kc2, O_n⟩
  replace A_s := A_s.keep Kc2 (own_cons (by first | assumption | exact Ne.symm (by assumption) | exact Nat.ne_of_lt (by assumption) | exact Nat.ne_of_gt (by assumption)) own_nil)
  replace O_q := O_n
  replace A_r0 := A_r0.keep Kc2 (own_cons (by first | assumption | exact Ne.symm (by assumption) | exact Nat.ne_of_lt (by assumption) | exact Nat.ne_of_gt (by assumption)) own_nil)
  replace A_e0 := A_e0.keep Kc2 (own_cons (by first | assumption | exact Ne.symm (by assumption) | exact Nat.ne_of_lt (by assumption) | exact Nat.ne_of_gt (by assumption)) own_nil)
  show WP _ _ _ _ _ _ _ _ _ _ []
  refine WP.iload at_188 rfl (pc' := 190) rfl ?_
  refine WP.ifLe at_190 (tgt := 210) (by decide) (pc' := 193) rfl (fun c190 => ?_) (fun c190 => ?_)
  · exfalso; omega
  refine WP.aload at_193 rfl rfl (pc' := 195) rfl ?_
  refine WP.aload at_195 rfl rfl (pc' := 197) rfl ?_
  refine WP.iconst at_197 (z := (0 : Int32)) rfl (pc' := 198) rfl ?_
  refine WP.laload 0 at_198 A_s (x := x0) rfl rfl (pc' := 199) rfl ?_
  refine WP.aload at_199 rfl rfl (pc' := 201) rfl ?_
  refine WP.iconst at_201 (z := (0 : Int32)) rfl (pc' := 202) rfl ?_
  refine WP.iload at_202 rfl (pc' := 204) rfl ?_
  refine WP.callS (y := (⟨"com/example/apportion/apportion/IdleGapsFloorPinLaw", "endOf", "([JII)J"⟩ : MethodName)) (By := B5) (as := [(.ref s), (.int (0 : Int32)), (.int (4 : Int32))]) (rest := [(.long x0), (.ref q)]) at_204 (w31 hw) (w32 hw) (w33 hw) (w34 hw) (by decide) (end_met hw s (0 : Int32) (4 : Int32) _ 0 x0 A_s rfl rfl) pd_6 rfl rfl rfl (by decide) (Nat.le_of_ble_eq_true rfl) (by decide) (by decide) (pc' := 207) rfl ?_
  rintro _ _ ⟨rfl, z0, rfl⟩
  show WP _ _ _ _ _ _ _ _ _ _ [(.long z0), (.long x0), (.ref q)]
  refine WP.callV (a := q) (z := (⟨"com/example/apportion/apportion/IdleGaps", "append", "(JJ)V"⟩ : MethodName)) (Cl := "com/example/apportion/apportion/IdleGaps") (y := (⟨"com/example/apportion/apportion/IdleGaps", "append", "(JJ)V"⟩ : MethodName)) (By := B6) (as := [(.long x0), (.long z0)]) (rest := []) at_207 (w35 hw) (w36 hw) (w38 hw) (w37 hw) (w10 hw) (w39 hw) rfl rfl (by decide) O_q.1 (app0_met hw q r0 e0 x0 z0 y0 y1 y2 y3 _ g_q g_r0 g_e0 O_q A_r0 A_e0 hes hfe hnd0) pd_7 rfl rfl rfl (by decide) (Nat.le_of_ble_eq_true rfl) (by decide) (by decide) (pc' := 210) rfl ?_
  rintro _ h6 ⟨rfl, es1, O_n, A_n, A_m, hes, hfe, Ka0⟩
  replace A_s := A_s.keep Ka0 (own_cons (by first | assumption | exact Ne.symm (by assumption) | exact Nat.ne_of_lt (by assumption) | exact Nat.ne_of_gt (by assumption)) (own_cons (by first | assumption | exact Ne.symm (by assumption) | exact Nat.ne_of_lt (by assumption) | exact Nat.ne_of_gt (by assumption)) (own_cons (by first | assumption | exact Ne.symm (by assumption) | exact Nat.ne_of_lt (by assumption) | exact Nat.ne_of_gt (by assumption)) own_nil)))
  replace O_q := O_n
  replace A_r0 := A_n
  replace A_e0 := A_m
  show WP _ _ _ _ _ _ _ _ _ _ []
  refine WP.iload at_210 rfl (pc' := 212) rfl ?_
  refine WP.iconst at_212 (z := (1 : Int32)) rfl (pc' := 213) rfl ?_
  refine WP.icmpLe at_213 (tgt := 233) (by decide) (pc' := 216) rfl (fun c213 => ?_) (fun c213 => ?_)
  · exfalso; omega
  refine WP.aload at_216 rfl rfl (pc' := 218) rfl ?_
  refine WP.aload at_218 rfl rfl (pc' := 220) rfl ?_
  refine WP.iconst at_220 (z := (1 : Int32)) rfl (pc' := 221) rfl ?_
  refine WP.laload 1 at_221 A_s (x := x1) rfl rfl (pc' := 222) rfl ?_
  refine WP.aload at_222 rfl rfl (pc' := 224) rfl ?_
  refine WP.iconst at_224 (z := (1 : Int32)) rfl (pc' := 225) rfl ?_
  refine WP.iload at_225 rfl (pc' := 227) rfl ?_
  refine WP.callS (y := (⟨"com/example/apportion/apportion/IdleGapsFloorPinLaw", "endOf", "([JII)J"⟩ : MethodName)) (By := B5) (as := [(.ref s), (.int (1 : Int32)), (.int (4 : Int32))]) (rest := [(.long x1), (.ref q)]) at_227 (w31 hw) (w32 hw) (w33 hw) (w34 hw) (by decide) (end_met hw s (1 : Int32) (4 : Int32) _ 1 x1 A_s rfl rfl) pd_6 rfl rfl rfl (by decide) (Nat.le_of_ble_eq_true rfl) (by decide) (by decide) (pc' := 230) rfl ?_
  rintro _ _ ⟨rfl, z1, rfl⟩
  show WP _ _ _ _ _ _ _ _ _ _ [(.long z1), (.long x1), (.ref q)]
  refine WP.callV (a := q) (z := (⟨"com/example/apportion/apportion/IdleGaps", "append", "(JJ)V"⟩ : MethodName)) (Cl := "com/example/apportion/apportion/IdleGaps") (y := (⟨"com/example/apportion/apportion/IdleGaps", "append", "(JJ)V"⟩ : MethodName)) (By := B6) (as := [(.long x1), (.long z1)]) (rest := []) at_230 (w35 hw) (w36 hw) (w38 hw) (w37 hw) (w10 hw) (w39 hw) rfl rfl (by decide) O_q.1 (app1_met hw q r0 e0 x1 z1 x0 y1 y2 y3 _ g_q g_r0 g_e0 O_q A_r0 A_e0 hes hfe hnd0) pd_7 rfl rfl rfl (by decide) (Nat.le_of_ble_eq_true rfl) (by decide) (by decide) (pc' := 233) rfl ?_
  rintro _ h8 ⟨rfl, es2, O_n, A_n, A_m, hes, hfe, Ka1⟩
  replace A_s := A_s.keep Ka1 (own_cons (by first | assumption | exact Ne.symm (by assumption) | exact Nat.ne_of_lt (by assumption) | exact Nat.ne_of_gt (by assumption)) (own_cons (by first | assumption | exact Ne.symm (by assumption) | exact Nat.ne_of_lt (by assumption) | exact Nat.ne_of_gt (by assumption)) (own_cons (by first | assumption | exact Ne.symm (by assumption) | exact Nat.ne_of_lt (by assumption) | exact Nat.ne_of_gt (by assumption)) own_nil)))
  replace O_q := O_n
  replace A_r0 := A_n
  replace A_e0 := A_m
  show WP _ _ _ _ _ _ _ _ _ _ []
  refine WP.iload at_233 rfl (pc' := 235) rfl ?_
  refine WP.iconst at_235 (z := (2 : Int32)) rfl (pc' := 236) rfl ?_
  refine WP.icmpLe at_236 (tgt := 256) (by decide) (pc' := 239) rfl (fun c236 => ?_) (fun c236 => ?_)
  · exfalso; omega
  refine WP.aload at_239 rfl rfl (pc' := 241) rfl ?_
  refine WP.aload at_241 rfl rfl (pc' := 243) rfl ?_
  refine WP.iconst at_243 (z := (2 : Int32)) rfl (pc' := 244) rfl ?_
  refine WP.laload 2 at_244 A_s (x := x2) rfl rfl (pc' := 245) rfl ?_
  refine WP.aload at_245 rfl rfl (pc' := 247) rfl ?_
  refine WP.iconst at_247 (z := (2 : Int32)) rfl (pc' := 248) rfl ?_
  refine WP.iload at_248 rfl (pc' := 250) rfl ?_
  refine WP.callS (y := (⟨"com/example/apportion/apportion/IdleGapsFloorPinLaw", "endOf", "([JII)J"⟩ : MethodName)) (By := B5) (as := [(.ref s), (.int (2 : Int32)), (.int (4 : Int32))]) (rest := [(.long x2), (.ref q)]) at_250 (w31 hw) (w32 hw) (w33 hw) (w34 hw) (by decide) (end_met hw s (2 : Int32) (4 : Int32) _ 2 x2 A_s rfl rfl) pd_6 rfl rfl rfl (by decide) (Nat.le_of_ble_eq_true rfl) (by decide) (by decide) (pc' := 253) rfl ?_
  rintro _ _ ⟨rfl, z2, rfl⟩
  show WP _ _ _ _ _ _ _ _ _ _ [(.long z2), (.long x2), (.ref q)]
  refine WP.callV (a := q) (z := (⟨"com/example/apportion/apportion/IdleGaps", "append", "(JJ)V"⟩ : MethodName)) (Cl := "com/example/apportion/apportion/IdleGaps") (y := (⟨"com/example/apportion/apportion/IdleGaps", "append", "(JJ)V"⟩ : MethodName)) (By := B6) (as := [(.long x2), (.long z2)]) (rest := []) at_253 (w35 hw) (w36 hw) (w38 hw) (w37 hw) (w10 hw) (w39 hw) rfl rfl (by decide) O_q.1 (app2_met hw q r0 e0 x2 z2 x0 x1 y2 y3 _ g_q g_r0 g_e0 O_q A_r0 A_e0 hes hfe hnd0) pd_7 rfl rfl rfl (by decide) (Nat.le_of_ble_eq_true rfl) (by decide) (by decide) (pc' := 256) rfl ?_
  rintro _ h10 ⟨rfl, es3, O_n, A_n, A_m, hes, hfe, Ka2⟩
  replace A_s := A_s.keep Ka2 (own_cons (by first | assumption | exact Ne.symm (by assumption) | exact Nat.ne_of_lt (by assumption) | exact Nat.ne_of_gt (by assumption)) (own_cons (by first | assumption | exact Ne.symm (by assumption) | exact Nat.ne_of_lt (by assumption) | exact Nat.ne_of_gt (by assumption)) (own_cons (by first | assumption | exact Ne.symm (by assumption) | exact Nat.ne_of_lt (by assumption) | exact Nat.ne_of_gt (by assumption)) own_nil)))
  replace O_q := O_n
  replace A_r0 := A_n
  replace A_e0 := A_m
  show WP _ _ _ _ _ _ _ _ _ _ []
  refine WP.iload at_256 rfl (pc' := 258) rfl ?_
  refine WP.iconst at_258 (z := (3 : Int32)) rfl (pc' := 259) rfl ?_
  refine WP.icmpLe at_259 (tgt := 279) (by decide) (pc' := 262) rfl (fun c259 => ?_) (fun c259 => ?_)
  · exfalso; omega
  refine WP.aload at_262 rfl rfl (pc' := 264) rfl ?_
  refine WP.aload at_264 rfl rfl (pc' := 266) rfl ?_
  refine WP.iconst at_266 (z := (3 : Int32)) rfl (pc' := 267) rfl ?_
  refine WP.laload 3 at_267 A_s (x := x3) rfl rfl (pc' := 268) rfl ?_
  refine WP.aload at_268 rfl rfl (pc' := 270) rfl ?_
  refine WP.iconst at_270 (z := (3 : Int32)) rfl (pc' := 271) rfl ?_
  refine WP.iload at_271 rfl (pc' := 273) rfl ?_
  refine WP.callS (y := (⟨"com/example/apportion/apportion/IdleGapsFloorPinLaw", "endOf", "([JII)J"⟩ : MethodName)) (By := B5) (as := [(.ref s), (.int (3 : Int32)), (.int (4 : Int32))]) (rest := [(.long x3), (.ref q)]) at_273 (w31 hw) (w32 hw) (w33 hw) (w34 hw) (by decide) (end_met hw s (3 : Int32) (4 : Int32) _ 3 x3 A_s rfl rfl) pd_6 rfl rfl rfl (by decide) (Nat.le_of_ble_eq_true rfl) (by decide) (by decide) (pc' := 276) rfl ?_
  rintro _ _ ⟨rfl, z3, rfl⟩
  show WP _ _ _ _ _ _ _ _ _ _ [(.long z3), (.long x3), (.ref q)]
  refine WP.callV (a := q) (z := (⟨"com/example/apportion/apportion/IdleGaps", "append", "(JJ)V"⟩ : MethodName)) (Cl := "com/example/apportion/apportion/IdleGaps") (y := (⟨"com/example/apportion/apportion/IdleGaps", "append", "(JJ)V"⟩ : MethodName)) (By := B6) (as := [(.long x3), (.long z3)]) (rest := []) at_276 (w35 hw) (w36 hw) (w38 hw) (w37 hw) (w10 hw) (w39 hw) rfl rfl (by decide) O_q.1 (app3_met hw q r0 e0 x3 z3 x0 x1 x2 y3 _ g_q g_r0 g_e0 O_q A_r0 A_e0 hes hfe hnd0) pd_7 rfl rfl rfl (by decide) (Nat.le_of_ble_eq_true rfl) (by decide) (by decide) (pc' := 279) rfl ?_
  rintro _ h12 ⟨rfl, es4, O_n, A_n, A_m, hes, hfe, Ka3⟩
  replace A_s := A_s.keep Ka3 (own_cons (by first | assumption | exact Ne.symm (by assumption) | exact Nat.ne_of_lt (by assumption) | exact Nat.ne_of_gt (by assumption)) (own_cons (by first | assumption | exact Ne.symm (by assumption) | exact Nat.ne_of_lt (by assumption) | exact Nat.ne_of_gt (by assumption)) (own_cons (by first | assumption | exact Ne.symm (by assumption) | exact Nat.ne_of_lt (by assumption) | exact Nat.ne_of_gt (by assumption)) own_nil)))
  replace O_q := O_n
  replace A_r0 := A_n
  replace A_e0 := A_m
  show WP _ _ _ _ _ _ _ _ _ _ []
  refine WP.iload at_279 rfl (pc' := 281) rfl ?_
  refine WP.iconst at_281 (z := (4 : Int32)) rfl (pc' := 282) rfl ?_
  refine WP.icmpLe at_282 (tgt := 302) (by decide) (pc' := 285) rfl (fun c282 => ?_) (fun c282 => ?_)
  ·
    refine WP.iload at_302 rfl (pc' := 304) rfl ?_
    refine WP.ifEq at_304 (tgt := 312) (by decide) (pc' := 307) rfl (fun c304 => ?_) (fun c304 => ?_)
    ·
      refine WP.iload at_312 rfl (pc' := 314) rfl ?_
      refine WP.ifEq at_314 (tgt := 321) (by decide) (pc' := 317) rfl (fun c314 => ?_) (fun c314 => ?_)
      ·
        refine WP.iconst at_321 (z := (0 : Int32)) rfl (pc' := 322) rfl ?_
        refine WP.istore at_322 (pc' := 324) rfl (ls' := #[.val (.long a), .second, .val (.long t0), .second, .val (.long g), .second, .val (.int m), .val (.ref s), .val (.int (4 : Int32)), .val (.int (0 : Int32)), .val (.long t), .second, .val (.ref q), .val (.int (0 : Int32)), .unset]) rfl ?_
        refine WP.aload at_324 rfl rfl (pc' := 326) rfl ?_
        refine WP.iconst at_326 (z := (0 : Int32)) rfl (pc' := 327) rfl ?_
        refine WP.iload at_327 rfl (pc' := 329) rfl ?_
        refine WP.iload at_329 rfl (pc' := 331) rfl ?_
        refine WP.lload at_331 rfl (pc' := 333) rfl ?_
        refine WP.callS (y := (⟨"com/example/apportion/apportion/IdleGapsFloorPinLaw", "in", "([JIIIJ)I"⟩ : MethodName)) (By := B7) (as := [(.ref s), (.int (0 : Int32)), (.int (0 : Int32)), (.int (4 : Int32)), (.long t)]) (rest := []) at_333 (w41 hw) (w42 hw) (w33 hw) (w43 hw) (by decide) (in_met hw s (0 : Int32) (0 : Int32) (4 : Int32) t _ 0 x0 A_s rfl rfl) pd_4 rfl rfl rfl (by decide) (Nat.le_of_ble_eq_true rfl) (by decide) (by decide) (pc' := 336) rfl ?_
        rintro _ _ ⟨rfl, c0, rfl, hc0⟩
        show WP _ _ _ _ _ _ _ _ _ _ [(.int c0)]
        refine WP.aload at_336 rfl rfl (pc' := 338) rfl ?_
        refine WP.iconst at_338 (z := (1 : Int32)) rfl (pc' := 339) rfl ?_
        refine WP.iload at_339 rfl (pc' := 341) rfl ?_
        refine WP.iload at_341 rfl (pc' := 343) rfl ?_
        refine WP.lload at_343 rfl (pc' := 345) rfl ?_
        refine WP.callS (y := (⟨"com/example/apportion/apportion/IdleGapsFloorPinLaw", "in", "([JIIIJ)I"⟩ : MethodName)) (By := B7) (as := [(.ref s), (.int (1 : Int32)), (.int (0 : Int32)), (.int (4 : Int32)), (.long t)]) (rest := [(.int c0)]) at_345 (w41 hw) (w42 hw) (w33 hw) (w43 hw) (by decide) (in_met hw s (1 : Int32) (0 : Int32) (4 : Int32) t _ 1 x1 A_s rfl rfl) pd_4 rfl rfl rfl (by decide) (Nat.le_of_ble_eq_true rfl) (by decide) (by decide) (pc' := 348) rfl ?_
        rintro _ _ ⟨rfl, c1, rfl, hc1⟩
        show WP _ _ _ _ _ _ _ _ _ _ [(.int c1), (.int c0)]
        refine WP.iadd at_348 (pc' := 349) rfl ?_
        refine WP.aload at_349 rfl rfl (pc' := 351) rfl ?_
        refine WP.iconst at_351 (z := (2 : Int32)) rfl (pc' := 352) rfl ?_
        refine WP.iload at_352 rfl (pc' := 354) rfl ?_
        refine WP.iload at_354 rfl (pc' := 356) rfl ?_
        refine WP.lload at_356 rfl (pc' := 358) rfl ?_
        refine WP.callS (y := (⟨"com/example/apportion/apportion/IdleGapsFloorPinLaw", "in", "([JIIIJ)I"⟩ : MethodName)) (By := B7) (as := [(.ref s), (.int (2 : Int32)), (.int (0 : Int32)), (.int (4 : Int32)), (.long t)]) (rest := [(.int (c0 + c1))]) at_358 (w41 hw) (w42 hw) (w33 hw) (w43 hw) (by decide) (in_met hw s (2 : Int32) (0 : Int32) (4 : Int32) t _ 2 x2 A_s rfl rfl) pd_4 rfl rfl rfl (by decide) (Nat.le_of_ble_eq_true rfl) (by decide) (by decide) (pc' := 361) rfl ?_
        rintro _ _ ⟨rfl, c2, rfl, hc2⟩
        show WP _ _ _ _ _ _ _ _ _ _ [(.int c2), (.int (c0 + c1))]
        refine WP.iadd at_361 (pc' := 362) rfl ?_
        refine WP.aload at_362 rfl rfl (pc' := 364) rfl ?_
        refine WP.iconst at_364 (z := (3 : Int32)) rfl (pc' := 365) rfl ?_
        refine WP.iload at_365 rfl (pc' := 367) rfl ?_
        refine WP.iload at_367 rfl (pc' := 369) rfl ?_
        refine WP.lload at_369 rfl (pc' := 371) rfl ?_
        refine WP.callS (y := (⟨"com/example/apportion/apportion/IdleGapsFloorPinLaw", "in", "([JIIIJ)I"⟩ : MethodName)) (By := B7) (as := [(.ref s), (.int (3 : Int32)), (.int (0 : Int32)), (.int (4 : Int32)), (.long t)]) (rest := [(.int ((c0 + c1) + c2))]) at_371 (w41 hw) (w42 hw) (w33 hw) (w43 hw) (by decide) (in_met hw s (3 : Int32) (0 : Int32) (4 : Int32) t _ 3 x3 A_s rfl rfl) pd_4 rfl rfl rfl (by decide) (Nat.le_of_ble_eq_true rfl) (by decide) (by decide) (pc' := 374) rfl ?_
        rintro _ _ ⟨rfl, c3, rfl, hc3⟩
        show WP _ _ _ _ _ _ _ _ _ _ [(.int c3), (.int ((c0 + c1) + c2))]
        refine WP.iadd at_374 (pc' := 375) rfl ?_
        refine WP.aload at_375 rfl rfl (pc' := 377) rfl ?_
        refine WP.iconst at_377 (z := (4 : Int32)) rfl (pc' := 378) rfl ?_
        refine WP.iload at_378 rfl (pc' := 380) rfl ?_
        refine WP.iload at_380 rfl (pc' := 382) rfl ?_
        refine WP.lload at_382 rfl (pc' := 384) rfl ?_
        refine WP.callS (y := (⟨"com/example/apportion/apportion/IdleGapsFloorPinLaw", "in", "([JIIIJ)I"⟩ : MethodName)) (By := B7) (as := [(.ref s), (.int (4 : Int32)), (.int (0 : Int32)), (.int (4 : Int32)), (.long t)]) (rest := [(.int (((c0 + c1) + c2) + c3))]) at_384 (w41 hw) (w42 hw) (w33 hw) (w43 hw) (by decide) (in_met hw s (4 : Int32) (0 : Int32) (4 : Int32) t _ 4 x4 A_s rfl rfl) pd_4 rfl rfl rfl (by decide) (Nat.le_of_ble_eq_true rfl) (by decide) (by decide) (pc' := 387) rfl ?_
        rintro _ _ ⟨rfl, c4, rfl, hc4⟩
        show WP _ _ _ _ _ _ _ _ _ _ [(.int c4), (.int (((c0 + c1) + c2) + c3))]
        refine WP.iadd at_387 (pc' := 388) rfl ?_
        refine WP.iconst at_388 (z := (1 : Int32)) rfl (pc' := 389) rfl ?_
        refine WP.isub at_389 (pc' := 390) rfl ?_
        obtain ⟨ex, e_ex⟩ : ∃ z, z = (((((c0 + c1) + c2) + c3) + c4) - (1 : Int32)) := ⟨_, rfl⟩
        rw [← e_ex]
        refine WP.istore at_390 (pc' := 392) rfl (ls' := #[.val (.long a), .second, .val (.long t0), .second, .val (.long g), .second, .val (.int m), .val (.ref s), .val (.int (4 : Int32)), .val (.int (0 : Int32)), .val (.long t), .second, .val (.ref q), .val (.int (0 : Int32)), .val (.int ex)]) rfl ?_
        have f1 : (c0 + c1).toInt = c0.toInt + c1.toInt := by rw [own_iadd] <;> omega
        have f2 : (c0 + c1 + c2).toInt = c0.toInt + c1.toInt + c2.toInt := by rw [own_iadd] <;> omega
        have f3 : (c0 + c1 + c2 + c3).toInt = c0.toInt + c1.toInt + c2.toInt + c3.toInt := by rw [own_iadd] <;> omega
        have f4 : (c0 + c1 + c2 + c3 + c4).toInt = c0.toInt + c1.toInt + c2.toInt + c3.toInt + c4.toInt := by rw [own_iadd] <;> omega
        have f5 : ex.toInt = c0.toInt + c1.toInt + c2.toInt + c3.toInt + c4.toInt - 1 := by rw [e_ex, own_isub] <;> omega
        clear f1 f2 f3 f4
        refine WP.aload at_392 rfl rfl (pc' := 394) rfl ?_
        refine WP.lload at_394 rfl (pc' := 396) rfl ?_
        refine WP.callV (a := q) (z := (⟨"com/example/apportion/apportion/IdleGaps", "floor", "(J)I"⟩ : MethodName)) (Cl := "com/example/apportion/apportion/IdleGaps") (y := (⟨"com/example/apportion/apportion/IdleGaps", "floor", "(J)I"⟩ : MethodName)) (By := B8) (as := [(.long t)]) (rest := []) at_396 (w44 hw) (w45 hw) (w47 hw) (w46 hw) (w10 hw) (w48 hw) rfl rfl (by decide) O_q.1 (flo_0_4 hw q r0 e0 t x0 x1 x2 x3 O_q A_r0 ⟨by omega, by omega, by omega⟩) pd_5 rfl rfl rfl (by decide) (Nat.le_of_ble_eq_true rfl) (by decide) (by decide) (pc' := 399) rfl ?_
        rintro _ _ ⟨rfl, fr, rfl, hf1, hf2, hf10, hf11, hf12, hf13⟩
        show WP _ _ _ _ _ _ _ _ _ _ [(.int fr)]
        refine WP.iload at_399 rfl (pc' := 401) rfl ?_
        refine WP.icmpNe at_401 (tgt := 408) (by decide) (pc' := 404) rfl (fun c401 => ?_) (fun c401 => ?_)
        ·
          refine WP.iconst at_408 (z := (0 : Int32)) rfl (pc' := 409) rfl ?_
          exact WP.retN at_409 (t := .boolean) rfl (by simp) (by decide) (by decide) (by exfalso; omega)
        refine WP.iconst at_404 (z := (1 : Int32)) rfl (pc' := 405) rfl ?_
        refine WP.goto at_405 (pc' := 409) (by decide) ?_
        exact WP.retN at_409 (t := .boolean) rfl (by simp) (by decide) (by decide) own_q1
      exfalso; omega
    exfalso; omega
  exfalso; omega
theorem law_173_4_1 {l : Launch} {Z : State} {a0 : Array Value} (hw : HW Z a0) {n0 : Nat} {h : Heap} (a t0 g : Int64) (m : Int32) (s : Addr) (x0 x1 x2 x3 x4 : Int64) (A_s : Av Z h s .long [(.long x0), (.long x1), (.long x2), (.long x3), (.long x4)]) (g_s : n0 ≤ s) (hs : x0.toInt < x1.toInt ∧ x1.toInt < x2.toInt ∧ x2.toInt < x3.toInt ∧ x3.toInt < x4.toInt) (t : Int64) : WP l B0 Z n0 (fun v h' => v = some (.int 1)) h 1 5 173 #[.val (.long a), .second, .val (.long t0), .second, .val (.long g), .second, .val (.int m), .val (.ref s), .val (.int (4 : Int32)), .val (.int (1 : Int32)), .val (.long t), .second, .unset, .unset, .unset] [] := by
  have k32_0 : (0 : Int32).toInt = 0 := by decide
  have k32_1 : (1 : Int32).toInt = 1 := by decide
  have k32_2 : (2 : Int32).toInt = 2 := by decide
  have k32_3 : (3 : Int32).toInt = 3 := by decide
  have k32_4 : (4 : Int32).toInt = 4 := by decide
  refine WP.newobj (lay := L_IG) (vs := [.null, .null, (.int 0), (.int 0)]) at_173 (w8 hw) (w9 hw) (w10 hw) (lay_IG hw) rfl (by decide) (by decide) (pc' := 176) rfl ?_
  intro q h1 eb_q g_q K2 O_q
  have lt_s_q : s < q := by rw [eb_q]; exact A_s.lt
  replace A_s := A_s.keep K2 own_nil
  refine WP.dup at_176 rfl (pc' := 177) rfl ?_
  refine WP.lloadN at_177 rfl (pc' := 178) rfl ?_
  have lts := A_s.lt
  have ltq := O_q.lt
  refine WP.callI (a := q) (y := (⟨"com/example/apportion/apportion/IdleGaps", "<init>", "(J)V"⟩ : MethodName)) (By := B2) (as := [(.long a)]) (rest := [(.ref q)]) at_178 (w11 hw) (w12 hw) (w10 hw) (w13 hw) rfl rfl (by decide) (ini_met hw q a g_q O_q) pd_3 rfl rfl rfl (by decide) (Nat.le_of_ble_eq_true rfl) (by decide) (by decide) (pc' := 181) rfl ?_
  rintro _ h3 ⟨rfl, r0, e0, y0, y1, y2, y3, es0, O_n, A_r0, A_e0, hes, g_r0, g_e0, hnd0, Kc, sz1, sz2, hfe⟩
  replace A_s := A_s.keep Kc (own_cons (by first | assumption | exact Ne.symm (by assumption) | exact Nat.ne_of_lt (by assumption) | exact Nat.ne_of_gt (by assumption)) own_nil)
  replace O_q := O_n
  have n_sr : s ≠ r0 := Nat.ne_of_lt (Nat.lt_of_lt_of_le lts sz1)
  have n_se : s ≠ e0 := Nat.ne_of_lt (Nat.lt_of_lt_of_le lts sz2)
  obtain ⟨n_qr, n_qe, n_re⟩ := id hnd0
  show WP _ _ _ _ _ _ _ _ _ _ [(.ref q)]
  refine WP.astore at_181 (pc' := 183) rfl rfl (ls' := #[.val (.long a), .second, .val (.long t0), .second, .val (.long g), .second, .val (.int m), .val (.ref s), .val (.int (4 : Int32)), .val (.int (1 : Int32)), .val (.long t), .second, .val (.ref q), .unset, .unset]) rfl ?_
  refine WP.aload at_183 rfl rfl (pc' := 185) rfl ?_
  refine WP.callV (a := q) (z := (⟨"com/example/apportion/apportion/IdleGaps", "clear", "()V"⟩ : MethodName)) (Cl := "com/example/apportion/apportion/IdleGaps") (y := (⟨"com/example/apportion/apportion/IdleGaps", "clear", "()V"⟩ : MethodName)) (By := B4) (as := []) (rest := []) at_185 (w26 hw) (w27 hw) (w29 hw) (w28 hw) (w10 hw) (w30 hw) rfl rfl (by decide) O_q.1 (clr_met hw q r0 e0 _ _ g_q O_q) pd_2 rfl rfl rfl (by decide) (Nat.le_of_ble_eq_true rfl) (by decide) (by decide) (pc' := 188) rfl ?_
  rintro _ h4 ⟨rfl, Kc2, O_n⟩
  replace A_s := A_s.keep Kc2 (own_cons (by first | assumption | exact Ne.symm (by assumption) | exact Nat.ne_of_lt (by assumption) | exact Nat.ne_of_gt (by assumption)) own_nil)
  replace O_q := O_n
  replace A_r0 := A_r0.keep Kc2 (own_cons (by first | assumption | exact Ne.symm (by assumption) | exact Nat.ne_of_lt (by assumption) | exact Nat.ne_of_gt (by assumption)) own_nil)
  replace A_e0 := A_e0.keep Kc2 (own_cons (by first | assumption | exact Ne.symm (by assumption) | exact Nat.ne_of_lt (by assumption) | exact Nat.ne_of_gt (by assumption)) own_nil)
  show WP _ _ _ _ _ _ _ _ _ _ []
  refine WP.iload at_188 rfl (pc' := 190) rfl ?_
  refine WP.ifLe at_190 (tgt := 210) (by decide) (pc' := 193) rfl (fun c190 => ?_) (fun c190 => ?_)
  · exfalso; omega
  refine WP.aload at_193 rfl rfl (pc' := 195) rfl ?_
  refine WP.aload at_195 rfl rfl (pc' := 197) rfl ?_
  refine WP.iconst at_197 (z := (0 : Int32)) rfl (pc' := 198) rfl ?_
  refine WP.laload 0 at_198 A_s (x := x0) rfl rfl (pc' := 199) rfl ?_
  refine WP.aload at_199 rfl rfl (pc' := 201) rfl ?_
  refine WP.iconst at_201 (z := (0 : Int32)) rfl (pc' := 202) rfl ?_
  refine WP.iload at_202 rfl (pc' := 204) rfl ?_
  refine WP.callS (y := (⟨"com/example/apportion/apportion/IdleGapsFloorPinLaw", "endOf", "([JII)J"⟩ : MethodName)) (By := B5) (as := [(.ref s), (.int (0 : Int32)), (.int (4 : Int32))]) (rest := [(.long x0), (.ref q)]) at_204 (w31 hw) (w32 hw) (w33 hw) (w34 hw) (by decide) (end_met hw s (0 : Int32) (4 : Int32) _ 0 x0 A_s rfl rfl) pd_6 rfl rfl rfl (by decide) (Nat.le_of_ble_eq_true rfl) (by decide) (by decide) (pc' := 207) rfl ?_
  rintro _ _ ⟨rfl, z0, rfl⟩
  show WP _ _ _ _ _ _ _ _ _ _ [(.long z0), (.long x0), (.ref q)]
  refine WP.callV (a := q) (z := (⟨"com/example/apportion/apportion/IdleGaps", "append", "(JJ)V"⟩ : MethodName)) (Cl := "com/example/apportion/apportion/IdleGaps") (y := (⟨"com/example/apportion/apportion/IdleGaps", "append", "(JJ)V"⟩ : MethodName)) (By := B6) (as := [(.long x0), (.long z0)]) (rest := []) at_207 (w35 hw) (w36 hw) (w38 hw) (w37 hw) (w10 hw) (w39 hw) rfl rfl (by decide) O_q.1 (app0_met hw q r0 e0 x0 z0 y0 y1 y2 y3 _ g_q g_r0 g_e0 O_q A_r0 A_e0 hes hfe hnd0) pd_7 rfl rfl rfl (by decide) (Nat.le_of_ble_eq_true rfl) (by decide) (by decide) (pc' := 210) rfl ?_
  rintro _ h6 ⟨rfl, es1, O_n, A_n, A_m, hes, hfe, Ka0⟩
  replace A_s := A_s.keep Ka0 (own_cons (by first | assumption | exact Ne.symm (by assumption) | exact Nat.ne_of_lt (by assumption) | exact Nat.ne_of_gt (by assumption)) (own_cons (by first | assumption | exact Ne.symm (by assumption) | exact Nat.ne_of_lt (by assumption) | exact Nat.ne_of_gt (by assumption)) (own_cons (by first | assumption | exact Ne.symm (by assumption) | exact Nat.ne_of_lt (by assumption) | exact Nat.ne_of_gt (by assumption)) own_nil)))
  replace O_q := O_n
  replace A_r0 := A_n
  replace A_e0 := A_m
  show WP _ _ _ _ _ _ _ _ _ _ []
  refine WP.iload at_210 rfl (pc' := 212) rfl ?_
  refine WP.iconst at_212 (z := (1 : Int32)) rfl (pc' := 213) rfl ?_
  refine WP.icmpLe at_213 (tgt := 233) (by decide) (pc' := 216) rfl (fun c213 => ?_) (fun c213 => ?_)
  · exfalso; omega
  refine WP.aload at_216 rfl rfl (pc' := 218) rfl ?_
  refine WP.aload at_218 rfl rfl (pc' := 220) rfl ?_
  refine WP.iconst at_220 (z := (1 : Int32)) rfl (pc' := 221) rfl ?_
  refine WP.laload 1 at_221 A_s (x := x1) rfl rfl (pc' := 222) rfl ?_
  refine WP.aload at_222 rfl rfl (pc' := 224) rfl ?_
  refine WP.iconst at_224 (z := (1 : Int32)) rfl (pc' := 225) rfl ?_
  refine WP.iload at_225 rfl (pc' := 227) rfl ?_
  refine WP.callS (y := (⟨"com/example/apportion/apportion/IdleGapsFloorPinLaw", "endOf", "([JII)J"⟩ : MethodName)) (By := B5) (as := [(.ref s), (.int (1 : Int32)), (.int (4 : Int32))]) (rest := [(.long x1), (.ref q)]) at_227 (w31 hw) (w32 hw) (w33 hw) (w34 hw) (by decide) (end_met hw s (1 : Int32) (4 : Int32) _ 1 x1 A_s rfl rfl) pd_6 rfl rfl rfl (by decide) (Nat.le_of_ble_eq_true rfl) (by decide) (by decide) (pc' := 230) rfl ?_
  rintro _ _ ⟨rfl, z1, rfl⟩
  show WP _ _ _ _ _ _ _ _ _ _ [(.long z1), (.long x1), (.ref q)]
  refine WP.callV (a := q) (z := (⟨"com/example/apportion/apportion/IdleGaps", "append", "(JJ)V"⟩ : MethodName)) (Cl := "com/example/apportion/apportion/IdleGaps") (y := (⟨"com/example/apportion/apportion/IdleGaps", "append", "(JJ)V"⟩ : MethodName)) (By := B6) (as := [(.long x1), (.long z1)]) (rest := []) at_230 (w35 hw) (w36 hw) (w38 hw) (w37 hw) (w10 hw) (w39 hw) rfl rfl (by decide) O_q.1 (app1_met hw q r0 e0 x1 z1 x0 y1 y2 y3 _ g_q g_r0 g_e0 O_q A_r0 A_e0 hes hfe hnd0) pd_7 rfl rfl rfl (by decide) (Nat.le_of_ble_eq_true rfl) (by decide) (by decide) (pc' := 233) rfl ?_
  rintro _ h8 ⟨rfl, es2, O_n, A_n, A_m, hes, hfe, Ka1⟩
  replace A_s := A_s.keep Ka1 (own_cons (by first | assumption | exact Ne.symm (by assumption) | exact Nat.ne_of_lt (by assumption) | exact Nat.ne_of_gt (by assumption)) (own_cons (by first | assumption | exact Ne.symm (by assumption) | exact Nat.ne_of_lt (by assumption) | exact Nat.ne_of_gt (by assumption)) (own_cons (by first | assumption | exact Ne.symm (by assumption) | exact Nat.ne_of_lt (by assumption) | exact Nat.ne_of_gt (by assumption)) own_nil)))
  replace O_q := O_n
  replace A_r0 := A_n
  replace A_e0 := A_m
  show WP _ _ _ _ _ _ _ _ _ _ []
  refine WP.iload at_233 rfl (pc' := 235) rfl ?_
  refine WP.iconst at_235 (z := (2 : Int32)) rfl (pc' := 236) rfl ?_
  refine WP.icmpLe at_236 (tgt := 256) (by decide) (pc' := 239) rfl (fun c236 => ?_) (fun c236 => ?_)
  · exfalso; omega
  refine WP.aload at_239 rfl rfl (pc' := 241) rfl ?_
  refine WP.aload at_241 rfl rfl (pc' := 243) rfl ?_
  refine WP.iconst at_243 (z := (2 : Int32)) rfl (pc' := 244) rfl ?_
  refine WP.laload 2 at_244 A_s (x := x2) rfl rfl (pc' := 245) rfl ?_
  refine WP.aload at_245 rfl rfl (pc' := 247) rfl ?_
  refine WP.iconst at_247 (z := (2 : Int32)) rfl (pc' := 248) rfl ?_
  refine WP.iload at_248 rfl (pc' := 250) rfl ?_
  refine WP.callS (y := (⟨"com/example/apportion/apportion/IdleGapsFloorPinLaw", "endOf", "([JII)J"⟩ : MethodName)) (By := B5) (as := [(.ref s), (.int (2 : Int32)), (.int (4 : Int32))]) (rest := [(.long x2), (.ref q)]) at_250 (w31 hw) (w32 hw) (w33 hw) (w34 hw) (by decide) (end_met hw s (2 : Int32) (4 : Int32) _ 2 x2 A_s rfl rfl) pd_6 rfl rfl rfl (by decide) (Nat.le_of_ble_eq_true rfl) (by decide) (by decide) (pc' := 253) rfl ?_
  rintro _ _ ⟨rfl, z2, rfl⟩
  show WP _ _ _ _ _ _ _ _ _ _ [(.long z2), (.long x2), (.ref q)]
  refine WP.callV (a := q) (z := (⟨"com/example/apportion/apportion/IdleGaps", "append", "(JJ)V"⟩ : MethodName)) (Cl := "com/example/apportion/apportion/IdleGaps") (y := (⟨"com/example/apportion/apportion/IdleGaps", "append", "(JJ)V"⟩ : MethodName)) (By := B6) (as := [(.long x2), (.long z2)]) (rest := []) at_253 (w35 hw) (w36 hw) (w38 hw) (w37 hw) (w10 hw) (w39 hw) rfl rfl (by decide) O_q.1 (app2_met hw q r0 e0 x2 z2 x0 x1 y2 y3 _ g_q g_r0 g_e0 O_q A_r0 A_e0 hes hfe hnd0) pd_7 rfl rfl rfl (by decide) (Nat.le_of_ble_eq_true rfl) (by decide) (by decide) (pc' := 256) rfl ?_
  rintro _ h10 ⟨rfl, es3, O_n, A_n, A_m, hes, hfe, Ka2⟩
  replace A_s := A_s.keep Ka2 (own_cons (by first | assumption | exact Ne.symm (by assumption) | exact Nat.ne_of_lt (by assumption) | exact Nat.ne_of_gt (by assumption)) (own_cons (by first | assumption | exact Ne.symm (by assumption) | exact Nat.ne_of_lt (by assumption) | exact Nat.ne_of_gt (by assumption)) (own_cons (by first | assumption | exact Ne.symm (by assumption) | exact Nat.ne_of_lt (by assumption) | exact Nat.ne_of_gt (by assumption)) own_nil)))
  replace O_q := O_n
  replace A_r0 := A_n
  replace A_e0 := A_m
  show WP _ _ _ _ _ _ _ _ _ _ []
  refine WP.iload at_256 rfl (pc' := 258) rfl ?_
  refine WP.iconst at_258 (z := (3 : Int32)) rfl (pc' := 259) rfl ?_
  refine WP.icmpLe at_259 (tgt := 279) (by decide) (pc' := 262) rfl (fun c259 => ?_) (fun c259 => ?_)
  · exfalso; omega
  refine WP.aload at_262 rfl rfl (pc' := 264) rfl ?_
  refine WP.aload at_264 rfl rfl (pc' := 266) rfl ?_
  refine WP.iconst at_266 (z := (3 : Int32)) rfl (pc' := 267) rfl ?_
  refine WP.laload 3 at_267 A_s (x := x3) rfl rfl (pc' := 268) rfl ?_
  refine WP.aload at_268 rfl rfl (pc' := 270) rfl ?_
  refine WP.iconst at_270 (z := (3 : Int32)) rfl (pc' := 271) rfl ?_
  refine WP.iload at_271 rfl (pc' := 273) rfl ?_
  refine WP.callS (y := (⟨"com/example/apportion/apportion/IdleGapsFloorPinLaw", "endOf", "([JII)J"⟩ : MethodName)) (By := B5) (as := [(.ref s), (.int (3 : Int32)), (.int (4 : Int32))]) (rest := [(.long x3), (.ref q)]) at_273 (w31 hw) (w32 hw) (w33 hw) (w34 hw) (by decide) (end_met hw s (3 : Int32) (4 : Int32) _ 3 x3 A_s rfl rfl) pd_6 rfl rfl rfl (by decide) (Nat.le_of_ble_eq_true rfl) (by decide) (by decide) (pc' := 276) rfl ?_
  rintro _ _ ⟨rfl, z3, rfl⟩
  show WP _ _ _ _ _ _ _ _ _ _ [(.long z3), (.long x3), (.ref q)]
  refine WP.callV (a := q) (z := (⟨"com/example/apportion/apportion/IdleGaps", "append", "(JJ)V"⟩ : MethodName)) (Cl := "com/example/apportion/apportion/IdleGaps") (y := (⟨"com/example/apportion/apportion/IdleGaps", "append", "(JJ)V"⟩ : MethodName)) (By := B6) (as := [(.long x3), (.long z3)]) (rest := []) at_276 (w35 hw) (w36 hw) (w38 hw) (w37 hw) (w10 hw) (w39 hw) rfl rfl (by decide) O_q.1 (app3_met hw q r0 e0 x3 z3 x0 x1 x2 y3 _ g_q g_r0 g_e0 O_q A_r0 A_e0 hes hfe hnd0) pd_7 rfl rfl rfl (by decide) (Nat.le_of_ble_eq_true rfl) (by decide) (by decide) (pc' := 279) rfl ?_
  rintro _ h12 ⟨rfl, es4, O_n, A_n, A_m, hes, hfe, Ka3⟩
  replace A_s := A_s.keep Ka3 (own_cons (by first | assumption | exact Ne.symm (by assumption) | exact Nat.ne_of_lt (by assumption) | exact Nat.ne_of_gt (by assumption)) (own_cons (by first | assumption | exact Ne.symm (by assumption) | exact Nat.ne_of_lt (by assumption) | exact Nat.ne_of_gt (by assumption)) (own_cons (by first | assumption | exact Ne.symm (by assumption) | exact Nat.ne_of_lt (by assumption) | exact Nat.ne_of_gt (by assumption)) own_nil)))
  replace O_q := O_n
  replace A_r0 := A_n
  replace A_e0 := A_m
  show WP _ _ _ _ _ _ _ _ _ _ []
  refine WP.iload at_279 rfl (pc' := 281) rfl ?_
  refine WP.iconst at_281 (z := (4 : Int32)) rfl (pc' := 282) rfl ?_
  refine WP.icmpLe at_282 (tgt := 302) (by decide) (pc' := 285) rfl (fun c282 => ?_) (fun c282 => ?_)
  ·
    refine WP.iload at_302 rfl (pc' := 304) rfl ?_
    refine WP.ifEq at_304 (tgt := 312) (by decide) (pc' := 307) rfl (fun c304 => ?_) (fun c304 => ?_)
    · exfalso; omega
    refine WP.aload at_307 rfl rfl (pc' := 309) rfl ?_
    refine WP.callV (a := q) (z := (⟨"com/example/apportion/apportion/IdleGaps", "dropFirst", "()V"⟩ : MethodName)) (Cl := "com/example/apportion/apportion/IdleGaps") (y := (⟨"com/example/apportion/apportion/IdleGaps", "dropFirst", "()V"⟩ : MethodName)) (By := B9) (as := []) (rest := []) at_309 (w49 hw) (w50 hw) (w52 hw) (w51 hw) (w10 hw) (w53 hw) rfl rfl (by decide) O_q.1 (drp_met hw q r0 e0 _ g_q O_q) pd_2 rfl rfl rfl (by decide) (Nat.le_of_ble_eq_true rfl) (by decide) (by decide) (pc' := 312) rfl ?_
    rintro _ h13 ⟨rfl, Kd, O_n⟩
    replace A_s := A_s.keep Kd (own_cons (by first | assumption | exact Ne.symm (by assumption) | exact Nat.ne_of_lt (by assumption) | exact Nat.ne_of_gt (by assumption)) own_nil)
    replace O_q := O_n
    replace A_r0 := A_r0.keep Kd (own_cons (by first | assumption | exact Ne.symm (by assumption) | exact Nat.ne_of_lt (by assumption) | exact Nat.ne_of_gt (by assumption)) own_nil)
    show WP _ _ _ _ _ _ _ _ _ _ []
    refine WP.iload at_312 rfl (pc' := 314) rfl ?_
    refine WP.ifEq at_314 (tgt := 321) (by decide) (pc' := 317) rfl (fun c314 => ?_) (fun c314 => ?_)
    · exfalso; omega
    refine WP.iconst at_317 (z := (1 : Int32)) rfl (pc' := 318) rfl ?_
    refine WP.goto at_318 (pc' := 322) (by decide) ?_
    refine WP.istore at_322 (pc' := 324) rfl (ls' := #[.val (.long a), .second, .val (.long t0), .second, .val (.long g), .second, .val (.int m), .val (.ref s), .val (.int (4 : Int32)), .val (.int (1 : Int32)), .val (.long t), .second, .val (.ref q), .val (.int (1 : Int32)), .unset]) rfl ?_
    refine WP.aload at_324 rfl rfl (pc' := 326) rfl ?_
    refine WP.iconst at_326 (z := (0 : Int32)) rfl (pc' := 327) rfl ?_
    refine WP.iload at_327 rfl (pc' := 329) rfl ?_
    refine WP.iload at_329 rfl (pc' := 331) rfl ?_
    refine WP.lload at_331 rfl (pc' := 333) rfl ?_
    refine WP.callS (y := (⟨"com/example/apportion/apportion/IdleGapsFloorPinLaw", "in", "([JIIIJ)I"⟩ : MethodName)) (By := B7) (as := [(.ref s), (.int (0 : Int32)), (.int (1 : Int32)), (.int (4 : Int32)), (.long t)]) (rest := []) at_333 (w41 hw) (w42 hw) (w33 hw) (w43 hw) (by decide) (in_met hw s (0 : Int32) (1 : Int32) (4 : Int32) t _ 0 x0 A_s rfl rfl) pd_4 rfl rfl rfl (by decide) (Nat.le_of_ble_eq_true rfl) (by decide) (by decide) (pc' := 336) rfl ?_
    rintro _ _ ⟨rfl, c0, rfl, hc0⟩
    show WP _ _ _ _ _ _ _ _ _ _ [(.int c0)]
    refine WP.aload at_336 rfl rfl (pc' := 338) rfl ?_
    refine WP.iconst at_338 (z := (1 : Int32)) rfl (pc' := 339) rfl ?_
    refine WP.iload at_339 rfl (pc' := 341) rfl ?_
    refine WP.iload at_341 rfl (pc' := 343) rfl ?_
    refine WP.lload at_343 rfl (pc' := 345) rfl ?_
    refine WP.callS (y := (⟨"com/example/apportion/apportion/IdleGapsFloorPinLaw", "in", "([JIIIJ)I"⟩ : MethodName)) (By := B7) (as := [(.ref s), (.int (1 : Int32)), (.int (1 : Int32)), (.int (4 : Int32)), (.long t)]) (rest := [(.int c0)]) at_345 (w41 hw) (w42 hw) (w33 hw) (w43 hw) (by decide) (in_met hw s (1 : Int32) (1 : Int32) (4 : Int32) t _ 1 x1 A_s rfl rfl) pd_4 rfl rfl rfl (by decide) (Nat.le_of_ble_eq_true rfl) (by decide) (by decide) (pc' := 348) rfl ?_
    rintro _ _ ⟨rfl, c1, rfl, hc1⟩
    show WP _ _ _ _ _ _ _ _ _ _ [(.int c1), (.int c0)]
    refine WP.iadd at_348 (pc' := 349) rfl ?_
    refine WP.aload at_349 rfl rfl (pc' := 351) rfl ?_
    refine WP.iconst at_351 (z := (2 : Int32)) rfl (pc' := 352) rfl ?_
    refine WP.iload at_352 rfl (pc' := 354) rfl ?_
    refine WP.iload at_354 rfl (pc' := 356) rfl ?_
    refine WP.lload at_356 rfl (pc' := 358) rfl ?_
    refine WP.callS (y := (⟨"com/example/apportion/apportion/IdleGapsFloorPinLaw", "in", "([JIIIJ)I"⟩ : MethodName)) (By := B7) (as := [(.ref s), (.int (2 : Int32)), (.int (1 : Int32)), (.int (4 : Int32)), (.long t)]) (rest := [(.int (c0 + c1))]) at_358 (w41 hw) (w42 hw) (w33 hw) (w43 hw) (by decide) (in_met hw s (2 : Int32) (1 : Int32) (4 : Int32) t _ 2 x2 A_s rfl rfl) pd_4 rfl rfl rfl (by decide) (Nat.le_of_ble_eq_true rfl) (by decide) (by decide) (pc' := 361) rfl ?_
    rintro _ _ ⟨rfl, c2, rfl, hc2⟩
    show WP _ _ _ _ _ _ _ _ _ _ [(.int c2), (.int (c0 + c1))]
    refine WP.iadd at_361 (pc' := 362) rfl ?_
    refine WP.aload at_362 rfl rfl (pc' := 364) rfl ?_
    refine WP.iconst at_364 (z := (3 : Int32)) rfl (pc' := 365) rfl ?_
    refine WP.iload at_365 rfl (pc' := 367) rfl ?_
    refine WP.iload at_367 rfl (pc' := 369) rfl ?_
    refine WP.lload at_369 rfl (pc' := 371) rfl ?_
    refine WP.callS (y := (⟨"com/example/apportion/apportion/IdleGapsFloorPinLaw", "in", "([JIIIJ)I"⟩ : MethodName)) (By := B7) (as := [(.ref s), (.int (3 : Int32)), (.int (1 : Int32)), (.int (4 : Int32)), (.long t)]) (rest := [(.int ((c0 + c1) + c2))]) at_371 (w41 hw) (w42 hw) (w33 hw) (w43 hw) (by decide) (in_met hw s (3 : Int32) (1 : Int32) (4 : Int32) t _ 3 x3 A_s rfl rfl) pd_4 rfl rfl rfl (by decide) (Nat.le_of_ble_eq_true rfl) (by decide) (by decide) (pc' := 374) rfl ?_
    rintro _ _ ⟨rfl, c3, rfl, hc3⟩
    show WP _ _ _ _ _ _ _ _ _ _ [(.int c3), (.int ((c0 + c1) + c2))]
    refine WP.iadd at_374 (pc' := 375) rfl ?_
    refine WP.aload at_375 rfl rfl (pc' := 377) rfl ?_
    refine WP.iconst at_377 (z := (4 : Int32)) rfl (pc' := 378) rfl ?_
    refine WP.iload at_378 rfl (pc' := 380) rfl ?_
    refine WP.iload at_380 rfl (pc' := 382) rfl ?_
    refine WP.lload at_382 rfl (pc' := 384) rfl ?_
    refine WP.callS (y := (⟨"com/example/apportion/apportion/IdleGapsFloorPinLaw", "in", "([JIIIJ)I"⟩ : MethodName)) (By := B7) (as := [(.ref s), (.int (4 : Int32)), (.int (1 : Int32)), (.int (4 : Int32)), (.long t)]) (rest := [(.int (((c0 + c1) + c2) + c3))]) at_384 (w41 hw) (w42 hw) (w33 hw) (w43 hw) (by decide) (in_met hw s (4 : Int32) (1 : Int32) (4 : Int32) t _ 4 x4 A_s rfl rfl) pd_4 rfl rfl rfl (by decide) (Nat.le_of_ble_eq_true rfl) (by decide) (by decide) (pc' := 387) rfl ?_
    rintro _ _ ⟨rfl, c4, rfl, hc4⟩
    show WP _ _ _ _ _ _ _ _ _ _ [(.int c4), (.int (((c0 + c1) + c2) + c3))]
    refine WP.iadd at_387 (pc' := 388) rfl ?_
    refine WP.iconst at_388 (z := (1 : Int32)) rfl (pc' := 389) rfl ?_
    refine WP.isub at_389 (pc' := 390) rfl ?_
    obtain ⟨ex, e_ex⟩ : ∃ z, z = (((((c0 + c1) + c2) + c3) + c4) - (1 : Int32)) := ⟨_, rfl⟩
    rw [← e_ex]
    refine WP.istore at_390 (pc' := 392) rfl (ls' := #[.val (.long a), .second, .val (.long t0), .second, .val (.long g), .second, .val (.int m), .val (.ref s), .val (.int (4 : Int32)), .val (.int (1 : Int32)), .val (.long t), .second, .val (.ref q), .val (.int (1 : Int32)), .val (.int ex)]) rfl ?_
    have f1 : (c0 + c1).toInt = c0.toInt + c1.toInt := by rw [own_iadd] <;> omega
    have f2 : (c0 + c1 + c2).toInt = c0.toInt + c1.toInt + c2.toInt := by rw [own_iadd] <;> omega
    have f3 : (c0 + c1 + c2 + c3).toInt = c0.toInt + c1.toInt + c2.toInt + c3.toInt := by rw [own_iadd] <;> omega
    have f4 : (c0 + c1 + c2 + c3 + c4).toInt = c0.toInt + c1.toInt + c2.toInt + c3.toInt + c4.toInt := by rw [own_iadd] <;> omega
    have f5 : ex.toInt = c0.toInt + c1.toInt + c2.toInt + c3.toInt + c4.toInt - 1 := by rw [e_ex, own_isub] <;> omega
    clear f1 f2 f3 f4
    refine WP.aload at_392 rfl rfl (pc' := 394) rfl ?_
    refine WP.lload at_394 rfl (pc' := 396) rfl ?_
    refine WP.callV (a := q) (z := (⟨"com/example/apportion/apportion/IdleGaps", "floor", "(J)I"⟩ : MethodName)) (Cl := "com/example/apportion/apportion/IdleGaps") (y := (⟨"com/example/apportion/apportion/IdleGaps", "floor", "(J)I"⟩ : MethodName)) (By := B8) (as := [(.long t)]) (rest := []) at_396 (w44 hw) (w45 hw) (w47 hw) (w46 hw) (w10 hw) (w48 hw) rfl rfl (by decide) O_q.1 (flo_1_4 hw q r0 e0 t x0 x1 x2 x3 O_q A_r0 ⟨by omega, by omega, by omega⟩) pd_5 rfl rfl rfl (by decide) (Nat.le_of_ble_eq_true rfl) (by decide) (by decide) (pc' := 399) rfl ?_
    rintro _ _ ⟨rfl, fr, rfl, hf1, hf2, hf10, hf11, hf12⟩
    show WP _ _ _ _ _ _ _ _ _ _ [(.int fr)]
    refine WP.iload at_399 rfl (pc' := 401) rfl ?_
    refine WP.icmpNe at_401 (tgt := 408) (by decide) (pc' := 404) rfl (fun c401 => ?_) (fun c401 => ?_)
    ·
      refine WP.iconst at_408 (z := (0 : Int32)) rfl (pc' := 409) rfl ?_
      exact WP.retN at_409 (t := .boolean) rfl (by simp) (by decide) (by decide) (by exfalso; omega)
    refine WP.iconst at_404 (z := (1 : Int32)) rfl (pc' := 405) rfl ?_
    refine WP.goto at_405 (pc' := 409) (by decide) ?_
    exact WP.retN at_409 (t := .boolean) rfl (by simp) (by decide) (by decide) own_q1
  exfalso; omega
theorem law_173_5_0 {l : Launch} {Z : State} {a0 : Array Value} (hw : HW Z a0) {n0 : Nat} {h : Heap} (a t0 g : Int64) (m : Int32) (s : Addr) (x0 x1 x2 x3 x4 : Int64) (A_s : Av Z h s .long [(.long x0), (.long x1), (.long x2), (.long x3), (.long x4)]) (g_s : n0 ≤ s) (hs : x0.toInt < x1.toInt ∧ x1.toInt < x2.toInt ∧ x2.toInt < x3.toInt ∧ x3.toInt < x4.toInt) (t : Int64) : WP l B0 Z n0 (fun v h' => v = some (.int 1)) h 1 5 173 #[.val (.long a), .second, .val (.long t0), .second, .val (.long g), .second, .val (.int m), .val (.ref s), .val (.int (5 : Int32)), .val (.int (0 : Int32)), .val (.long t), .second, .unset, .unset, .unset] [] := by
  have k32_0 : (0 : Int32).toInt = 0 := by decide
  have k32_1 : (1 : Int32).toInt = 1 := by decide
  have k32_2 : (2 : Int32).toInt = 2 := by decide
  have k32_3 : (3 : Int32).toInt = 3 := by decide
  have k32_4 : (4 : Int32).toInt = 4 := by decide
  have k32_5 : (5 : Int32).toInt = 5 := by decide
  refine WP.newobj (lay := L_IG) (vs := [.null, .null, (.int 0), (.int 0)]) at_173 (w8 hw) (w9 hw) (w10 hw) (lay_IG hw) rfl (by decide) (by decide) (pc' := 176) rfl ?_
  intro q h1 eb_q g_q K2 O_q
  have lt_s_q : s < q := by rw [eb_q]; exact A_s.lt
  replace A_s := A_s.keep K2 own_nil
  refine WP.dup at_176 rfl (pc' := 177) rfl ?_
  refine WP.lloadN at_177 rfl (pc' := 178) rfl ?_
  have lts := A_s.lt
  have ltq := O_q.lt
  refine WP.callI (a := q) (y := (⟨"com/example/apportion/apportion/IdleGaps", "<init>", "(J)V"⟩ : MethodName)) (By := B2) (as := [(.long a)]) (rest := [(.ref q)]) at_178 (w11 hw) (w12 hw) (w10 hw) (w13 hw) rfl rfl (by decide) (ini_met hw q a g_q O_q) pd_3 rfl rfl rfl (by decide) (Nat.le_of_ble_eq_true rfl) (by decide) (by decide) (pc' := 181) rfl ?_
  rintro _ h3 ⟨rfl, r0, e0, y0, y1, y2, y3, es0, O_n, A_r0, A_e0, hes, g_r0, g_e0, hnd0, Kc, sz1, sz2, hfe⟩
  replace A_s := A_s.keep Kc (own_cons (by first | assumption | exact Ne.symm (by assumption) | exact Nat.ne_of_lt (by assumption) | exact Nat.ne_of_gt (by assumption)) own_nil)
  replace O_q := O_n
  have n_sr : s ≠ r0 := Nat.ne_of_lt (Nat.lt_of_lt_of_le lts sz1)
  have n_se : s ≠ e0 := Nat.ne_of_lt (Nat.lt_of_lt_of_le lts sz2)
  obtain ⟨n_qr, n_qe, n_re⟩ := id hnd0
  show WP _ _ _ _ _ _ _ _ _ _ [(.ref q)]
  refine WP.astore at_181 (pc' := 183) rfl rfl (ls' := #[.val (.long a), .second, .val (.long t0), .second, .val (.long g), .second, .val (.int m), .val (.ref s), .val (.int (5 : Int32)), .val (.int (0 : Int32)), .val (.long t), .second, .val (.ref q), .unset, .unset]) rfl ?_
  refine WP.aload at_183 rfl rfl (pc' := 185) rfl ?_
  refine WP.callV (a := q) (z := (⟨"com/example/apportion/apportion/IdleGaps", "clear", "()V"⟩ : MethodName)) (Cl := "com/example/apportion/apportion/IdleGaps") (y := (⟨"com/example/apportion/apportion/IdleGaps", "clear", "()V"⟩ : MethodName)) (By := B4) (as := []) (rest := []) at_185 (w26 hw) (w27 hw) (w29 hw) (w28 hw) (w10 hw) (w30 hw) rfl rfl (by decide) O_q.1 (clr_met hw q r0 e0 _ _ g_q O_q) pd_2 rfl rfl rfl (by decide) (Nat.le_of_ble_eq_true rfl) (by decide) (by decide) (pc' := 188) rfl ?_
  rintro _ h4 ⟨rfl, Kc2, O_n⟩
  replace A_s := A_s.keep Kc2 (own_cons (by first | assumption | exact Ne.symm (by assumption) | exact Nat.ne_of_lt (by assumption) | exact Nat.ne_of_gt (by assumption)) own_nil)
  replace O_q := O_n
  replace A_r0 := A_r0.keep Kc2 (own_cons (by first | assumption | exact Ne.symm (by assumption) | exact Nat.ne_of_lt (by assumption) | exact Nat.ne_of_gt (by assumption)) own_nil)
  replace A_e0 := A_e0.keep Kc2 (own_cons (by first | assumption | exact Ne.symm (by assumption) | exact Nat.ne_of_lt (by assumption) | exact Nat.ne_of_gt (by assumption)) own_nil)
  show WP _ _ _ _ _ _ _ _ _ _ []
  refine WP.iload at_188 rfl (pc' := 190) rfl ?_
  refine WP.ifLe at_190 (tgt := 210) (by decide) (pc' := 193) rfl (fun c190 => ?_) (fun c190 => ?_)
  · exfalso; omega
  refine WP.aload at_193 rfl rfl (pc' := 195) rfl ?_
  refine WP.aload at_195 rfl rfl (pc' := 197) rfl ?_
  refine WP.iconst at_197 (z := (0 : Int32)) rfl (pc' := 198) rfl ?_
  refine WP.laload 0 at_198 A_s (x := x0) rfl rfl (pc' := 199) rfl ?_
  refine WP.aload at_199 rfl rfl (pc' := 201) rfl ?_
  refine WP.iconst at_201 (z := (0 : Int32)) rfl (pc' := 202) rfl ?_
  refine WP.iload at_202 rfl (pc' := 204) rfl ?_
  refine WP.callS (y := (⟨"com/example/apportion/apportion/IdleGapsFloorPinLaw", "endOf", "([JII)J"⟩ : MethodName)) (By := B5) (as := [(.ref s), (.int (0 : Int32)), (.int (5 : Int32))]) (rest := [(.long x0), (.ref q)]) at_204 (w31 hw) (w32 hw) (w33 hw) (w34 hw) (by decide) (end_met hw s (0 : Int32) (5 : Int32) _ 0 x0 A_s rfl rfl) pd_6 rfl rfl rfl (by decide) (Nat.le_of_ble_eq_true rfl) (by decide) (by decide) (pc' := 207) rfl ?_
  rintro _ _ ⟨rfl, z0, rfl⟩
  show WP _ _ _ _ _ _ _ _ _ _ [(.long z0), (.long x0), (.ref q)]
  refine WP.callV (a := q) (z := (⟨"com/example/apportion/apportion/IdleGaps", "append", "(JJ)V"⟩ : MethodName)) (Cl := "com/example/apportion/apportion/IdleGaps") (y := (⟨"com/example/apportion/apportion/IdleGaps", "append", "(JJ)V"⟩ : MethodName)) (By := B6) (as := [(.long x0), (.long z0)]) (rest := []) at_207 (w35 hw) (w36 hw) (w38 hw) (w37 hw) (w10 hw) (w39 hw) rfl rfl (by decide) O_q.1 (app0_met hw q r0 e0 x0 z0 y0 y1 y2 y3 _ g_q g_r0 g_e0 O_q A_r0 A_e0 hes hfe hnd0) pd_7 rfl rfl rfl (by decide) (Nat.le_of_ble_eq_true rfl) (by decide) (by decide) (pc' := 210) rfl ?_
  rintro _ h6 ⟨rfl, es1, O_n, A_n, A_m, hes, hfe, Ka0⟩
  replace A_s := A_s.keep Ka0 (own_cons (by first | assumption | exact Ne.symm (by assumption) | exact Nat.ne_of_lt (by assumption) | exact Nat.ne_of_gt (by assumption)) (own_cons (by first | assumption | exact Ne.symm (by assumption) | exact Nat.ne_of_lt (by assumption) | exact Nat.ne_of_gt (by assumption)) (own_cons (by first | assumption | exact Ne.symm (by assumption) | exact Nat.ne_of_lt (by assumption) | exact Nat.ne_of_gt (by assumption)) own_nil)))
  replace O_q := O_n
  replace A_r0 := A_n
  replace A_e0 := A_m
  show WP _ _ _ _ _ _ _ _ _ _ []
  refine WP.iload at_210 rfl (pc' := 212) rfl ?_
  refine WP.iconst at_212 (z := (1 : Int32)) rfl (pc' := 213) rfl ?_
  refine WP.icmpLe at_213 (tgt := 233) (by decide) (pc' := 216) rfl (fun c213 => ?_) (fun c213 => ?_)
  · exfalso; omega
  refine WP.aload at_216 rfl rfl (pc' := 218) rfl ?_
  refine WP.aload at_218 rfl rfl (pc' := 220) rfl ?_
  refine WP.iconst at_220 (z := (1 : Int32)) rfl (pc' := 221) rfl ?_
  refine WP.laload 1 at_221 A_s (x := x1) rfl rfl (pc' := 222) rfl ?_
  refine WP.aload at_222 rfl rfl (pc' := 224) rfl ?_
  refine WP.iconst at_224 (z := (1 : Int32)) rfl (pc' := 225) rfl ?_
  refine WP.iload at_225 rfl (pc' := 227) rfl ?_
  refine WP.callS (y := (⟨"com/example/apportion/apportion/IdleGapsFloorPinLaw", "endOf", "([JII)J"⟩ : MethodName)) (By := B5) (as := [(.ref s), (.int (1 : Int32)), (.int (5 : Int32))]) (rest := [(.long x1), (.ref q)]) at_227 (w31 hw) (w32 hw) (w33 hw) (w34 hw) (by decide) (end_met hw s (1 : Int32) (5 : Int32) _ 1 x1 A_s rfl rfl) pd_6 rfl rfl rfl (by decide) (Nat.le_of_ble_eq_true rfl) (by decide) (by decide) (pc' := 230) rfl ?_
  rintro _ _ ⟨rfl, z1, rfl⟩
  show WP _ _ _ _ _ _ _ _ _ _ [(.long z1), (.long x1), (.ref q)]
  refine WP.callV (a := q) (z := (⟨"com/example/apportion/apportion/IdleGaps", "append", "(JJ)V"⟩ : MethodName)) (Cl := "com/example/apportion/apportion/IdleGaps") (y := (⟨"com/example/apportion/apportion/IdleGaps", "append", "(JJ)V"⟩ : MethodName)) (By := B6) (as := [(.long x1), (.long z1)]) (rest := []) at_230 (w35 hw) (w36 hw) (w38 hw) (w37 hw) (w10 hw) (w39 hw) rfl rfl (by decide) O_q.1 (app1_met hw q r0 e0 x1 z1 x0 y1 y2 y3 _ g_q g_r0 g_e0 O_q A_r0 A_e0 hes hfe hnd0) pd_7 rfl rfl rfl (by decide) (Nat.le_of_ble_eq_true rfl) (by decide) (by decide) (pc' := 233) rfl ?_
  rintro _ h8 ⟨rfl, es2, O_n, A_n, A_m, hes, hfe, Ka1⟩
  replace A_s := A_s.keep Ka1 (own_cons (by first | assumption | exact Ne.symm (by assumption) | exact Nat.ne_of_lt (by assumption) | exact Nat.ne_of_gt (by assumption)) (own_cons (by first | assumption | exact Ne.symm (by assumption) | exact Nat.ne_of_lt (by assumption) | exact Nat.ne_of_gt (by assumption)) (own_cons (by first | assumption | exact Ne.symm (by assumption) | exact Nat.ne_of_lt (by assumption) | exact Nat.ne_of_gt (by assumption)) own_nil)))
  replace O_q := O_n
  replace A_r0 := A_n
  replace A_e0 := A_m
  show WP _ _ _ _ _ _ _ _ _ _ []
  refine WP.iload at_233 rfl (pc' := 235) rfl ?_
  refine WP.iconst at_235 (z := (2 : Int32)) rfl (pc' := 236) rfl ?_
  refine WP.icmpLe at_236 (tgt := 256) (by decide) (pc' := 239) rfl (fun c236 => ?_) (fun c236 => ?_)
  · exfalso; omega
  refine WP.aload at_239 rfl rfl (pc' := 241) rfl ?_
  refine WP.aload at_241 rfl rfl (pc' := 243) rfl ?_
  refine WP.iconst at_243 (z := (2 : Int32)) rfl (pc' := 244) rfl ?_
  refine WP.laload 2 at_244 A_s (x := x2) rfl rfl (pc' := 245) rfl ?_
  refine WP.aload at_245 rfl rfl (pc' := 247) rfl ?_
  refine WP.iconst at_247 (z := (2 : Int32)) rfl (pc' := 248) rfl ?_
  refine WP.iload at_248 rfl (pc' := 250) rfl ?_
  refine WP.callS (y := (⟨"com/example/apportion/apportion/IdleGapsFloorPinLaw", "endOf", "([JII)J"⟩ : MethodName)) (By := B5) (as := [(.ref s), (.int (2 : Int32)), (.int (5 : Int32))]) (rest := [(.long x2), (.ref q)]) at_250 (w31 hw) (w32 hw) (w33 hw) (w34 hw) (by decide) (end_met hw s (2 : Int32) (5 : Int32) _ 2 x2 A_s rfl rfl) pd_6 rfl rfl rfl (by decide) (Nat.le_of_ble_eq_true rfl) (by decide) (by decide) (pc' := 253) rfl ?_
  rintro _ _ ⟨rfl, z2, rfl⟩
  show WP _ _ _ _ _ _ _ _ _ _ [(.long z2), (.long x2), (.ref q)]
  refine WP.callV (a := q) (z := (⟨"com/example/apportion/apportion/IdleGaps", "append", "(JJ)V"⟩ : MethodName)) (Cl := "com/example/apportion/apportion/IdleGaps") (y := (⟨"com/example/apportion/apportion/IdleGaps", "append", "(JJ)V"⟩ : MethodName)) (By := B6) (as := [(.long x2), (.long z2)]) (rest := []) at_253 (w35 hw) (w36 hw) (w38 hw) (w37 hw) (w10 hw) (w39 hw) rfl rfl (by decide) O_q.1 (app2_met hw q r0 e0 x2 z2 x0 x1 y2 y3 _ g_q g_r0 g_e0 O_q A_r0 A_e0 hes hfe hnd0) pd_7 rfl rfl rfl (by decide) (Nat.le_of_ble_eq_true rfl) (by decide) (by decide) (pc' := 256) rfl ?_
  rintro _ h10 ⟨rfl, es3, O_n, A_n, A_m, hes, hfe, Ka2⟩
  replace A_s := A_s.keep Ka2 (own_cons (by first | assumption | exact Ne.symm (by assumption) | exact Nat.ne_of_lt (by assumption) | exact Nat.ne_of_gt (by assumption)) (own_cons (by first | assumption | exact Ne.symm (by assumption) | exact Nat.ne_of_lt (by assumption) | exact Nat.ne_of_gt (by assumption)) (own_cons (by first | assumption | exact Ne.symm (by assumption) | exact Nat.ne_of_lt (by assumption) | exact Nat.ne_of_gt (by assumption)) own_nil)))
  replace O_q := O_n
  replace A_r0 := A_n
  replace A_e0 := A_m
  show WP _ _ _ _ _ _ _ _ _ _ []
  refine WP.iload at_256 rfl (pc' := 258) rfl ?_
  refine WP.iconst at_258 (z := (3 : Int32)) rfl (pc' := 259) rfl ?_
  refine WP.icmpLe at_259 (tgt := 279) (by decide) (pc' := 262) rfl (fun c259 => ?_) (fun c259 => ?_)
  · exfalso; omega
  refine WP.aload at_262 rfl rfl (pc' := 264) rfl ?_
  refine WP.aload at_264 rfl rfl (pc' := 266) rfl ?_
  refine WP.iconst at_266 (z := (3 : Int32)) rfl (pc' := 267) rfl ?_
  refine WP.laload 3 at_267 A_s (x := x3) rfl rfl (pc' := 268) rfl ?_
  refine WP.aload at_268 rfl rfl (pc' := 270) rfl ?_
  refine WP.iconst at_270 (z := (3 : Int32)) rfl (pc' := 271) rfl ?_
  refine WP.iload at_271 rfl (pc' := 273) rfl ?_
  refine WP.callS (y := (⟨"com/example/apportion/apportion/IdleGapsFloorPinLaw", "endOf", "([JII)J"⟩ : MethodName)) (By := B5) (as := [(.ref s), (.int (3 : Int32)), (.int (5 : Int32))]) (rest := [(.long x3), (.ref q)]) at_273 (w31 hw) (w32 hw) (w33 hw) (w34 hw) (by decide) (end_met hw s (3 : Int32) (5 : Int32) _ 3 x3 A_s rfl rfl) pd_6 rfl rfl rfl (by decide) (Nat.le_of_ble_eq_true rfl) (by decide) (by decide) (pc' := 276) rfl ?_
  rintro _ _ ⟨rfl, z3, rfl⟩
  show WP _ _ _ _ _ _ _ _ _ _ [(.long z3), (.long x3), (.ref q)]
  refine WP.callV (a := q) (z := (⟨"com/example/apportion/apportion/IdleGaps", "append", "(JJ)V"⟩ : MethodName)) (Cl := "com/example/apportion/apportion/IdleGaps") (y := (⟨"com/example/apportion/apportion/IdleGaps", "append", "(JJ)V"⟩ : MethodName)) (By := B6) (as := [(.long x3), (.long z3)]) (rest := []) at_276 (w35 hw) (w36 hw) (w38 hw) (w37 hw) (w10 hw) (w39 hw) rfl rfl (by decide) O_q.1 (app3_met hw q r0 e0 x3 z3 x0 x1 x2 y3 _ g_q g_r0 g_e0 O_q A_r0 A_e0 hes hfe hnd0) pd_7 rfl rfl rfl (by decide) (Nat.le_of_ble_eq_true rfl) (by decide) (by decide) (pc' := 279) rfl ?_
  rintro _ h12 ⟨rfl, es4, O_n, A_n, A_m, hes, hfe, Ka3⟩
  replace A_s := A_s.keep Ka3 (own_cons (by first | assumption | exact Ne.symm (by assumption) | exact Nat.ne_of_lt (by assumption) | exact Nat.ne_of_gt (by assumption)) (own_cons (by first | assumption | exact Ne.symm (by assumption) | exact Nat.ne_of_lt (by assumption) | exact Nat.ne_of_gt (by assumption)) (own_cons (by first | assumption | exact Ne.symm (by assumption) | exact Nat.ne_of_lt (by assumption) | exact Nat.ne_of_gt (by assumption)) own_nil)))
  replace O_q := O_n
  replace A_r0 := A_n
  replace A_e0 := A_m
  show WP _ _ _ _ _ _ _ _ _ _ []
  refine WP.iload at_279 rfl (pc' := 281) rfl ?_
  refine WP.iconst at_281 (z := (4 : Int32)) rfl (pc' := 282) rfl ?_
  refine WP.icmpLe at_282 (tgt := 302) (by decide) (pc' := 285) rfl (fun c282 => ?_) (fun c282 => ?_)
  · exfalso; omega
  refine WP.aload at_285 rfl rfl (pc' := 287) rfl ?_
  refine WP.aload at_287 rfl rfl (pc' := 289) rfl ?_
  refine WP.iconst at_289 (z := (4 : Int32)) rfl (pc' := 290) rfl ?_
  refine WP.laload 4 at_290 A_s (x := x4) rfl rfl (pc' := 291) rfl ?_
  refine WP.aload at_291 rfl rfl (pc' := 293) rfl ?_
  refine WP.iconst at_293 (z := (4 : Int32)) rfl (pc' := 294) rfl ?_
  refine WP.iload at_294 rfl (pc' := 296) rfl ?_
  refine WP.callS (y := (⟨"com/example/apportion/apportion/IdleGapsFloorPinLaw", "endOf", "([JII)J"⟩ : MethodName)) (By := B5) (as := [(.ref s), (.int (4 : Int32)), (.int (5 : Int32))]) (rest := [(.long x4), (.ref q)]) at_296 (w31 hw) (w32 hw) (w33 hw) (w34 hw) (by decide) (end_met hw s (4 : Int32) (5 : Int32) _ 4 x4 A_s rfl rfl) pd_6 rfl rfl rfl (by decide) (Nat.le_of_ble_eq_true rfl) (by decide) (by decide) (pc' := 299) rfl ?_
  rintro _ _ ⟨rfl, z4, rfl⟩
  show WP _ _ _ _ _ _ _ _ _ _ [(.long z4), (.long x4), (.ref q)]
  refine WP.callV (a := q) (z := (⟨"com/example/apportion/apportion/IdleGaps", "append", "(JJ)V"⟩ : MethodName)) (Cl := "com/example/apportion/apportion/IdleGaps") (y := (⟨"com/example/apportion/apportion/IdleGaps", "append", "(JJ)V"⟩ : MethodName)) (By := B6) (as := [(.long x4), (.long z4)]) (rest := []) at_299 (w35 hw) (w36 hw) (w38 hw) (w37 hw) (w10 hw) (w39 hw) rfl rfl (by decide) O_q.1 (app4_met hw q r0 e0 x4 z4 x0 x1 x2 x3 _ g_q g_r0 g_e0 O_q A_r0 A_e0 hes hfe hnd0) pd_7 rfl rfl rfl (by decide) (Nat.le_of_ble_eq_true rfl) (by decide) (by decide) (pc' := 302) rfl ?_
  rintro _ h14 ⟨rfl, r9, e9, es9, O_n, A_r9, -, -, -, -, hnd9, Ka4⟩
  replace A_s := A_s.keep Ka4 (own_cons (by first | assumption | exact Ne.symm (by assumption) | exact Nat.ne_of_lt (by assumption) | exact Nat.ne_of_gt (by assumption)) own_nil)
  replace O_q := O_n
  show WP _ _ _ _ _ _ _ _ _ _ []
  have n_qr9 : q ≠ r9 := hnd9.1
  refine WP.iload at_302 rfl (pc' := 304) rfl ?_
  refine WP.ifEq at_304 (tgt := 312) (by decide) (pc' := 307) rfl (fun c304 => ?_) (fun c304 => ?_)
  ·
    refine WP.iload at_312 rfl (pc' := 314) rfl ?_
    refine WP.ifEq at_314 (tgt := 321) (by decide) (pc' := 317) rfl (fun c314 => ?_) (fun c314 => ?_)
    ·
      refine WP.iconst at_321 (z := (0 : Int32)) rfl (pc' := 322) rfl ?_
      refine WP.istore at_322 (pc' := 324) rfl (ls' := #[.val (.long a), .second, .val (.long t0), .second, .val (.long g), .second, .val (.int m), .val (.ref s), .val (.int (5 : Int32)), .val (.int (0 : Int32)), .val (.long t), .second, .val (.ref q), .val (.int (0 : Int32)), .unset]) rfl ?_
      refine WP.aload at_324 rfl rfl (pc' := 326) rfl ?_
      refine WP.iconst at_326 (z := (0 : Int32)) rfl (pc' := 327) rfl ?_
      refine WP.iload at_327 rfl (pc' := 329) rfl ?_
      refine WP.iload at_329 rfl (pc' := 331) rfl ?_
      refine WP.lload at_331 rfl (pc' := 333) rfl ?_
      refine WP.callS (y := (⟨"com/example/apportion/apportion/IdleGapsFloorPinLaw", "in", "([JIIIJ)I"⟩ : MethodName)) (By := B7) (as := [(.ref s), (.int (0 : Int32)), (.int (0 : Int32)), (.int (5 : Int32)), (.long t)]) (rest := []) at_333 (w41 hw) (w42 hw) (w33 hw) (w43 hw) (by decide) (in_met hw s (0 : Int32) (0 : Int32) (5 : Int32) t _ 0 x0 A_s rfl rfl) pd_4 rfl rfl rfl (by decide) (Nat.le_of_ble_eq_true rfl) (by decide) (by decide) (pc' := 336) rfl ?_
      rintro _ _ ⟨rfl, c0, rfl, hc0⟩
      show WP _ _ _ _ _ _ _ _ _ _ [(.int c0)]
      refine WP.aload at_336 rfl rfl (pc' := 338) rfl ?_
      refine WP.iconst at_338 (z := (1 : Int32)) rfl (pc' := 339) rfl ?_
      refine WP.iload at_339 rfl (pc' := 341) rfl ?_
      refine WP.iload at_341 rfl (pc' := 343) rfl ?_
      refine WP.lload at_343 rfl (pc' := 345) rfl ?_
      refine WP.callS (y := (⟨"com/example/apportion/apportion/IdleGapsFloorPinLaw", "in", "([JIIIJ)I"⟩ : MethodName)) (By := B7) (as := [(.ref s), (.int (1 : Int32)), (.int (0 : Int32)), (.int (5 : Int32)), (.long t)]) (rest := [(.int c0)]) at_345 (w41 hw) (w42 hw) (w33 hw) (w43 hw) (by decide) (in_met hw s (1 : Int32) (0 : Int32) (5 : Int32) t _ 1 x1 A_s rfl rfl) pd_4 rfl rfl rfl (by decide) (Nat.le_of_ble_eq_true rfl) (by decide) (by decide) (pc' := 348) rfl ?_
      rintro _ _ ⟨rfl, c1, rfl, hc1⟩
      show WP _ _ _ _ _ _ _ _ _ _ [(.int c1), (.int c0)]
      refine WP.iadd at_348 (pc' := 349) rfl ?_
      refine WP.aload at_349 rfl rfl (pc' := 351) rfl ?_
      refine WP.iconst at_351 (z := (2 : Int32)) rfl (pc' := 352) rfl ?_
      refine WP.iload at_352 rfl (pc' := 354) rfl ?_
      refine WP.iload at_354 rfl (pc' := 356) rfl ?_
      refine WP.lload at_356 rfl (pc' := 358) rfl ?_
      refine WP.callS (y := (⟨"com/example/apportion/apportion/IdleGapsFloorPinLaw", "in", "([JIIIJ)I"⟩ : MethodName)) (By := B7) (as := [(.ref s), (.int (2 : Int32)), (.int (0 : Int32)), (.int (5 : Int32)), (.long t)]) (rest := [(.int (c0 + c1))]) at_358 (w41 hw) (w42 hw) (w33 hw) (w43 hw) (by decide) (in_met hw s (2 : Int32) (0 : Int32) (5 : Int32) t _ 2 x2 A_s rfl rfl) pd_4 rfl rfl rfl (by decide) (Nat.le_of_ble_eq_true rfl) (by decide) (by decide) (pc' := 361) rfl ?_
      rintro _ _ ⟨rfl, c2, rfl, hc2⟩
      show WP _ _ _ _ _ _ _ _ _ _ [(.int c2), (.int (c0 + c1))]
      refine WP.iadd at_361 (pc' := 362) rfl ?_
      refine WP.aload at_362 rfl rfl (pc' := 364) rfl ?_
      refine WP.iconst at_364 (z := (3 : Int32)) rfl (pc' := 365) rfl ?_
      refine WP.iload at_365 rfl (pc' := 367) rfl ?_
      refine WP.iload at_367 rfl (pc' := 369) rfl ?_
      refine WP.lload at_369 rfl (pc' := 371) rfl ?_
      refine WP.callS (y := (⟨"com/example/apportion/apportion/IdleGapsFloorPinLaw", "in", "([JIIIJ)I"⟩ : MethodName)) (By := B7) (as := [(.ref s), (.int (3 : Int32)), (.int (0 : Int32)), (.int (5 : Int32)), (.long t)]) (rest := [(.int ((c0 + c1) + c2))]) at_371 (w41 hw) (w42 hw) (w33 hw) (w43 hw) (by decide) (in_met hw s (3 : Int32) (0 : Int32) (5 : Int32) t _ 3 x3 A_s rfl rfl) pd_4 rfl rfl rfl (by decide) (Nat.le_of_ble_eq_true rfl) (by decide) (by decide) (pc' := 374) rfl ?_
      rintro _ _ ⟨rfl, c3, rfl, hc3⟩
      show WP _ _ _ _ _ _ _ _ _ _ [(.int c3), (.int ((c0 + c1) + c2))]
      refine WP.iadd at_374 (pc' := 375) rfl ?_
      refine WP.aload at_375 rfl rfl (pc' := 377) rfl ?_
      refine WP.iconst at_377 (z := (4 : Int32)) rfl (pc' := 378) rfl ?_
      refine WP.iload at_378 rfl (pc' := 380) rfl ?_
      refine WP.iload at_380 rfl (pc' := 382) rfl ?_
      refine WP.lload at_382 rfl (pc' := 384) rfl ?_
      refine WP.callS (y := (⟨"com/example/apportion/apportion/IdleGapsFloorPinLaw", "in", "([JIIIJ)I"⟩ : MethodName)) (By := B7) (as := [(.ref s), (.int (4 : Int32)), (.int (0 : Int32)), (.int (5 : Int32)), (.long t)]) (rest := [(.int (((c0 + c1) + c2) + c3))]) at_384 (w41 hw) (w42 hw) (w33 hw) (w43 hw) (by decide) (in_met hw s (4 : Int32) (0 : Int32) (5 : Int32) t _ 4 x4 A_s rfl rfl) pd_4 rfl rfl rfl (by decide) (Nat.le_of_ble_eq_true rfl) (by decide) (by decide) (pc' := 387) rfl ?_
      rintro _ _ ⟨rfl, c4, rfl, hc4⟩
      show WP _ _ _ _ _ _ _ _ _ _ [(.int c4), (.int (((c0 + c1) + c2) + c3))]
      refine WP.iadd at_387 (pc' := 388) rfl ?_
      refine WP.iconst at_388 (z := (1 : Int32)) rfl (pc' := 389) rfl ?_
      refine WP.isub at_389 (pc' := 390) rfl ?_
      obtain ⟨ex, e_ex⟩ : ∃ z, z = (((((c0 + c1) + c2) + c3) + c4) - (1 : Int32)) := ⟨_, rfl⟩
      rw [← e_ex]
      refine WP.istore at_390 (pc' := 392) rfl (ls' := #[.val (.long a), .second, .val (.long t0), .second, .val (.long g), .second, .val (.int m), .val (.ref s), .val (.int (5 : Int32)), .val (.int (0 : Int32)), .val (.long t), .second, .val (.ref q), .val (.int (0 : Int32)), .val (.int ex)]) rfl ?_
      have f1 : (c0 + c1).toInt = c0.toInt + c1.toInt := by rw [own_iadd] <;> omega
      have f2 : (c0 + c1 + c2).toInt = c0.toInt + c1.toInt + c2.toInt := by rw [own_iadd] <;> omega
      have f3 : (c0 + c1 + c2 + c3).toInt = c0.toInt + c1.toInt + c2.toInt + c3.toInt := by rw [own_iadd] <;> omega
      have f4 : (c0 + c1 + c2 + c3 + c4).toInt = c0.toInt + c1.toInt + c2.toInt + c3.toInt + c4.toInt := by rw [own_iadd] <;> omega
      have f5 : ex.toInt = c0.toInt + c1.toInt + c2.toInt + c3.toInt + c4.toInt - 1 := by rw [e_ex, own_isub] <;> omega
      clear f1 f2 f3 f4
      refine WP.aload at_392 rfl rfl (pc' := 394) rfl ?_
      refine WP.lload at_394 rfl (pc' := 396) rfl ?_
      refine WP.callV (a := q) (z := (⟨"com/example/apportion/apportion/IdleGaps", "floor", "(J)I"⟩ : MethodName)) (Cl := "com/example/apportion/apportion/IdleGaps") (y := (⟨"com/example/apportion/apportion/IdleGaps", "floor", "(J)I"⟩ : MethodName)) (By := B8) (as := [(.long t)]) (rest := []) at_396 (w44 hw) (w45 hw) (w47 hw) (w46 hw) (w10 hw) (w48 hw) rfl rfl (by decide) O_q.1 (flo_0_5 hw q r9 e9 t x0 x1 x2 x3 x4 O_q A_r9 ⟨by omega, by omega, by omega, by omega⟩) pd_5 rfl rfl rfl (by decide) (Nat.le_of_ble_eq_true rfl) (by decide) (by decide) (pc' := 399) rfl ?_
      rintro _ _ ⟨rfl, fr, rfl, hf1, hf2, hf10, hf11, hf12, hf13, hf14⟩
      show WP _ _ _ _ _ _ _ _ _ _ [(.int fr)]
      refine WP.iload at_399 rfl (pc' := 401) rfl ?_
      refine WP.icmpNe at_401 (tgt := 408) (by decide) (pc' := 404) rfl (fun c401 => ?_) (fun c401 => ?_)
      ·
        refine WP.iconst at_408 (z := (0 : Int32)) rfl (pc' := 409) rfl ?_
        exact WP.retN at_409 (t := .boolean) rfl (by simp) (by decide) (by decide) (by exfalso; omega)
      refine WP.iconst at_404 (z := (1 : Int32)) rfl (pc' := 405) rfl ?_
      refine WP.goto at_405 (pc' := 409) (by decide) ?_
      exact WP.retN at_409 (t := .boolean) rfl (by simp) (by decide) (by decide) own_q1
    exfalso; omega
  exfalso; omega
theorem law_173_5_1 {l : Launch} {Z : State} {a0 : Array Value} (hw : HW Z a0) {n0 : Nat} {h : Heap} (a t0 g : Int64) (m : Int32) (s : Addr) (x0 x1 x2 x3 x4 : Int64) (A_s : Av Z h s .long [(.long x0), (.long x1), (.long x2), (.long x3), (.long x4)]) (g_s : n0 ≤ s) (hs : x0.toInt < x1.toInt ∧ x1.toInt < x2.toInt ∧ x2.toInt < x3.toInt ∧ x3.toInt < x4.toInt) (t : Int64) : WP l B0 Z n0 (fun v h' => v = some (.int 1)) h 1 5 173 #[.val (.long a), .second, .val (.long t0), .second, .val (.long g), .second, .val (.int m), .val (.ref s), .val (.int (5 : Int32)), .val (.int (1 : Int32)), .val (.long t), .second, .unset, .unset, .unset] [] := by
  have k32_0 : (0 : Int32).toInt = 0 := by decide
  have k32_1 : (1 : Int32).toInt = 1 := by decide
  have k32_2 : (2 : Int32).toInt = 2 := by decide
  have k32_3 : (3 : Int32).toInt = 3 := by decide
  have k32_4 : (4 : Int32).toInt = 4 := by decide
  have k32_5 : (5 : Int32).toInt = 5 := by decide
  refine WP.newobj (lay := L_IG) (vs := [.null, .null, (.int 0), (.int 0)]) at_173 (w8 hw) (w9 hw) (w10 hw) (lay_IG hw) rfl (by decide) (by decide) (pc' := 176) rfl ?_
  intro q h1 eb_q g_q K2 O_q
  have lt_s_q : s < q := by rw [eb_q]; exact A_s.lt
  replace A_s := A_s.keep K2 own_nil
  refine WP.dup at_176 rfl (pc' := 177) rfl ?_
  refine WP.lloadN at_177 rfl (pc' := 178) rfl ?_
  have lts := A_s.lt
  have ltq := O_q.lt
  refine WP.callI (a := q) (y := (⟨"com/example/apportion/apportion/IdleGaps", "<init>", "(J)V"⟩ : MethodName)) (By := B2) (as := [(.long a)]) (rest := [(.ref q)]) at_178 (w11 hw) (w12 hw) (w10 hw) (w13 hw) rfl rfl (by decide) (ini_met hw q a g_q O_q) pd_3 rfl rfl rfl (by decide) (Nat.le_of_ble_eq_true rfl) (by decide) (by decide) (pc' := 181) rfl ?_
  rintro _ h3 ⟨rfl, r0, e0, y0, y1, y2, y3, es0, O_n, A_r0, A_e0, hes, g_r0, g_e0, hnd0, Kc, sz1, sz2, hfe⟩
  replace A_s := A_s.keep Kc (own_cons (by first | assumption | exact Ne.symm (by assumption) | exact Nat.ne_of_lt (by assumption) | exact Nat.ne_of_gt (by assumption)) own_nil)
  replace O_q := O_n
  have n_sr : s ≠ r0 := Nat.ne_of_lt (Nat.lt_of_lt_of_le lts sz1)
  have n_se : s ≠ e0 := Nat.ne_of_lt (Nat.lt_of_lt_of_le lts sz2)
  obtain ⟨n_qr, n_qe, n_re⟩ := id hnd0
  show WP _ _ _ _ _ _ _ _ _ _ [(.ref q)]
  refine WP.astore at_181 (pc' := 183) rfl rfl (ls' := #[.val (.long a), .second, .val (.long t0), .second, .val (.long g), .second, .val (.int m), .val (.ref s), .val (.int (5 : Int32)), .val (.int (1 : Int32)), .val (.long t), .second, .val (.ref q), .unset, .unset]) rfl ?_
  refine WP.aload at_183 rfl rfl (pc' := 185) rfl ?_
  refine WP.callV (a := q) (z := (⟨"com/example/apportion/apportion/IdleGaps", "clear", "()V"⟩ : MethodName)) (Cl := "com/example/apportion/apportion/IdleGaps") (y := (⟨"com/example/apportion/apportion/IdleGaps", "clear", "()V"⟩ : MethodName)) (By := B4) (as := []) (rest := []) at_185 (w26 hw) (w27 hw) (w29 hw) (w28 hw) (w10 hw) (w30 hw) rfl rfl (by decide) O_q.1 (clr_met hw q r0 e0 _ _ g_q O_q) pd_2 rfl rfl rfl (by decide) (Nat.le_of_ble_eq_true rfl) (by decide) (by decide) (pc' := 188) rfl ?_
  rintro _ h4 ⟨rfl, Kc2, O_n⟩
  replace A_s := A_s.keep Kc2 (own_cons (by first | assumption | exact Ne.symm (by assumption) | exact Nat.ne_of_lt (by assumption) | exact Nat.ne_of_gt (by assumption)) own_nil)
  replace O_q := O_n
  replace A_r0 := A_r0.keep Kc2 (own_cons (by first | assumption | exact Ne.symm (by assumption) | exact Nat.ne_of_lt (by assumption) | exact Nat.ne_of_gt (by assumption)) own_nil)
  replace A_e0 := A_e0.keep Kc2 (own_cons (by first | assumption | exact Ne.symm (by assumption) | exact Nat.ne_of_lt (by assumption) | exact Nat.ne_of_gt (by assumption)) own_nil)
  show WP _ _ _ _ _ _ _ _ _ _ []
  refine WP.iload at_188 rfl (pc' := 190) rfl ?_
  refine WP.ifLe at_190 (tgt := 210) (by decide) (pc' := 193) rfl (fun c190 => ?_) (fun c190 => ?_)
  · exfalso; omega
  refine WP.aload at_193 rfl rfl (pc' := 195) rfl ?_
  refine WP.aload at_195 rfl rfl (pc' := 197) rfl ?_
  refine WP.iconst at_197 (z := (0 : Int32)) rfl (pc' := 198) rfl ?_
  refine WP.laload 0 at_198 A_s (x := x0) rfl rfl (pc' := 199) rfl ?_
  refine WP.aload at_199 rfl rfl (pc' := 201) rfl ?_
  refine WP.iconst at_201 (z := (0 : Int32)) rfl (pc' := 202) rfl ?_
  refine WP.iload at_202 rfl (pc' := 204) rfl ?_
  refine WP.callS (y := (⟨"com/example/apportion/apportion/IdleGapsFloorPinLaw", "endOf", "([JII)J"⟩ : MethodName)) (By := B5) (as := [(.ref s), (.int (0 : Int32)), (.int (5 : Int32))]) (rest := [(.long x0), (.ref q)]) at_204 (w31 hw) (w32 hw) (w33 hw) (w34 hw) (by decide) (end_met hw s (0 : Int32) (5 : Int32) _ 0 x0 A_s rfl rfl) pd_6 rfl rfl rfl (by decide) (Nat.le_of_ble_eq_true rfl) (by decide) (by decide) (pc' := 207) rfl ?_
  rintro _ _ ⟨rfl, z0, rfl⟩
  show WP _ _ _ _ _ _ _ _ _ _ [(.long z0), (.long x0), (.ref q)]
  refine WP.callV (a := q) (z := (⟨"com/example/apportion/apportion/IdleGaps", "append", "(JJ)V"⟩ : MethodName)) (Cl := "com/example/apportion/apportion/IdleGaps") (y := (⟨"com/example/apportion/apportion/IdleGaps", "append", "(JJ)V"⟩ : MethodName)) (By := B6) (as := [(.long x0), (.long z0)]) (rest := []) at_207 (w35 hw) (w36 hw) (w38 hw) (w37 hw) (w10 hw) (w39 hw) rfl rfl (by decide) O_q.1 (app0_met hw q r0 e0 x0 z0 y0 y1 y2 y3 _ g_q g_r0 g_e0 O_q A_r0 A_e0 hes hfe hnd0) pd_7 rfl rfl rfl (by decide) (Nat.le_of_ble_eq_true rfl) (by decide) (by decide) (pc' := 210) rfl ?_
  rintro _ h6 ⟨rfl, es1, O_n, A_n, A_m, hes, hfe, Ka0⟩
  replace A_s := A_s.keep Ka0 (own_cons (by first | assumption | exact Ne.symm (by assumption) | exact Nat.ne_of_lt (by assumption) | exact Nat.ne_of_gt (by assumption)) (own_cons (by first | assumption | exact Ne.symm (by assumption) | exact Nat.ne_of_lt (by assumption) | exact Nat.ne_of_gt (by assumption)) (own_cons (by first | assumption | exact Ne.symm (by assumption) | exact Nat.ne_of_lt (by assumption) | exact Nat.ne_of_gt (by assumption)) own_nil)))
  replace O_q := O_n
  replace A_r0 := A_n
  replace A_e0 := A_m
  show WP _ _ _ _ _ _ _ _ _ _ []
  refine WP.iload at_210 rfl (pc' := 212) rfl ?_
  refine WP.iconst at_212 (z := (1 : Int32)) rfl (pc' := 213) rfl ?_
  refine WP.icmpLe at_213 (tgt := 233) (by decide) (pc' := 216) rfl (fun c213 => ?_) (fun c213 => ?_)
  · exfalso; omega
  refine WP.aload at_216 rfl rfl (pc' := 218) rfl ?_
  refine WP.aload at_218 rfl rfl (pc' := 220) rfl ?_
  refine WP.iconst at_220 (z := (1 : Int32)) rfl (pc' := 221) rfl ?_
  refine WP.laload 1 at_221 A_s (x := x1) rfl rfl (pc' := 222) rfl ?_
  refine WP.aload at_222 rfl rfl (pc' := 224) rfl ?_
  refine WP.iconst at_224 (z := (1 : Int32)) rfl (pc' := 225) rfl ?_
  refine WP.iload at_225 rfl (pc' := 227) rfl ?_
  refine WP.callS (y := (⟨"com/example/apportion/apportion/IdleGapsFloorPinLaw", "endOf", "([JII)J"⟩ : MethodName)) (By := B5) (as := [(.ref s), (.int (1 : Int32)), (.int (5 : Int32))]) (rest := [(.long x1), (.ref q)]) at_227 (w31 hw) (w32 hw) (w33 hw) (w34 hw) (by decide) (end_met hw s (1 : Int32) (5 : Int32) _ 1 x1 A_s rfl rfl) pd_6 rfl rfl rfl (by decide) (Nat.le_of_ble_eq_true rfl) (by decide) (by decide) (pc' := 230) rfl ?_
  rintro _ _ ⟨rfl, z1, rfl⟩
  show WP _ _ _ _ _ _ _ _ _ _ [(.long z1), (.long x1), (.ref q)]
  refine WP.callV (a := q) (z := (⟨"com/example/apportion/apportion/IdleGaps", "append", "(JJ)V"⟩ : MethodName)) (Cl := "com/example/apportion/apportion/IdleGaps") (y := (⟨"com/example/apportion/apportion/IdleGaps", "append", "(JJ)V"⟩ : MethodName)) (By := B6) (as := [(.long x1), (.long z1)]) (rest := []) at_230 (w35 hw) (w36 hw) (w38 hw) (w37 hw) (w10 hw) (w39 hw) rfl rfl (by decide) O_q.1 (app1_met hw q r0 e0 x1 z1 x0 y1 y2 y3 _ g_q g_r0 g_e0 O_q A_r0 A_e0 hes hfe hnd0) pd_7 rfl rfl rfl (by decide) (Nat.le_of_ble_eq_true rfl) (by decide) (by decide) (pc' := 233) rfl ?_
  rintro _ h8 ⟨rfl, es2, O_n, A_n, A_m, hes, hfe, Ka1⟩
  replace A_s := A_s.keep Ka1 (own_cons (by first | assumption | exact Ne.symm (by assumption) | exact Nat.ne_of_lt (by assumption) | exact Nat.ne_of_gt (by assumption)) (own_cons (by first | assumption | exact Ne.symm (by assumption) | exact Nat.ne_of_lt (by assumption) | exact Nat.ne_of_gt (by assumption)) (own_cons (by first | assumption | exact Ne.symm (by assumption) | exact Nat.ne_of_lt (by assumption) | exact Nat.ne_of_gt (by assumption)) own_nil)))
  replace O_q := O_n
  replace A_r0 := A_n
  replace A_e0 := A_m
  show WP _ _ _ _ _ _ _ _ _ _ []
  refine WP.iload at_233 rfl (pc' := 235) rfl ?_
  refine WP.iconst at_235 (z := (2 : Int32)) rfl (pc' := 236) rfl ?_
  refine WP.icmpLe at_236 (tgt := 256) (by decide) (pc' := 239) rfl (fun c236 => ?_) (fun c236 => ?_)
  · exfalso; omega
  refine WP.aload at_239 rfl rfl (pc' := 241) rfl ?_
  refine WP.aload at_241 rfl rfl (pc' := 243) rfl ?_
  refine WP.iconst at_243 (z := (2 : Int32)) rfl (pc' := 244) rfl ?_
  refine WP.laload 2 at_244 A_s (x := x2) rfl rfl (pc' := 245) rfl ?_
  refine WP.aload at_245 rfl rfl (pc' := 247) rfl ?_
  refine WP.iconst at_247 (z := (2 : Int32)) rfl (pc' := 248) rfl ?_
  refine WP.iload at_248 rfl (pc' := 250) rfl ?_
  refine WP.callS (y := (⟨"com/example/apportion/apportion/IdleGapsFloorPinLaw", "endOf", "([JII)J"⟩ : MethodName)) (By := B5) (as := [(.ref s), (.int (2 : Int32)), (.int (5 : Int32))]) (rest := [(.long x2), (.ref q)]) at_250 (w31 hw) (w32 hw) (w33 hw) (w34 hw) (by decide) (end_met hw s (2 : Int32) (5 : Int32) _ 2 x2 A_s rfl rfl) pd_6 rfl rfl rfl (by decide) (Nat.le_of_ble_eq_true rfl) (by decide) (by decide) (pc' := 253) rfl ?_
  rintro _ _ ⟨rfl, z2, rfl⟩
  show WP _ _ _ _ _ _ _ _ _ _ [(.long z2), (.long x2), (.ref q)]
  refine WP.callV (a := q) (z := (⟨"com/example/apportion/apportion/IdleGaps", "append", "(JJ)V"⟩ : MethodName)) (Cl := "com/example/apportion/apportion/IdleGaps") (y := (⟨"com/example/apportion/apportion/IdleGaps", "append", "(JJ)V"⟩ : MethodName)) (By := B6) (as := [(.long x2), (.long z2)]) (rest := []) at_253 (w35 hw) (w36 hw) (w38 hw) (w37 hw) (w10 hw) (w39 hw) rfl rfl (by decide) O_q.1 (app2_met hw q r0 e0 x2 z2 x0 x1 y2 y3 _ g_q g_r0 g_e0 O_q A_r0 A_e0 hes hfe hnd0) pd_7 rfl rfl rfl (by decide) (Nat.le_of_ble_eq_true rfl) (by decide) (by decide) (pc' := 256) rfl ?_
  rintro _ h10 ⟨rfl, es3, O_n, A_n, A_m, hes, hfe, Ka2⟩
  replace A_s := A_s.keep Ka2 (own_cons (by first | assumption | exact Ne.symm (by assumption) | exact Nat.ne_of_lt (by assumption) | exact Nat.ne_of_gt (by assumption)) (own_cons (by first | assumption | exact Ne.symm (by assumption) | exact Nat.ne_of_lt (by assumption) | exact Nat.ne_of_gt (by assumption)) (own_cons (by first | assumption | exact Ne.symm (by assumption) | exact Nat.ne_of_lt (by assumption) | exact Nat.ne_of_gt (by assumption)) own_nil)))
  replace O_q := O_n
  replace A_r0 := A_n
  replace A_e0 := A_m
  show WP _ _ _ _ _ _ _ _ _ _ []
  refine WP.iload at_256 rfl (pc' := 258) rfl ?_
  refine WP.iconst at_258 (z := (3 : Int32)) rfl (pc' := 259) rfl ?_
  refine WP.icmpLe at_259 (tgt := 279) (by decide) (pc' := 262) rfl (fun c259 => ?_) (fun c259 => ?_)
  · exfalso; omega
  refine WP.aload at_262 rfl rfl (pc' := 264) rfl ?_
  refine WP.aload at_264 rfl rfl (pc' := 266) rfl ?_
  refine WP.iconst at_266 (z := (3 : Int32)) rfl (pc' := 267) rfl ?_
  refine WP.laload 3 at_267 A_s (x := x3) rfl rfl (pc' := 268) rfl ?_
  refine WP.aload at_268 rfl rfl (pc' := 270) rfl ?_
  refine WP.iconst at_270 (z := (3 : Int32)) rfl (pc' := 271) rfl ?_
  refine WP.iload at_271 rfl (pc' := 273) rfl ?_
  refine WP.callS (y := (⟨"com/example/apportion/apportion/IdleGapsFloorPinLaw", "endOf", "([JII)J"⟩ : MethodName)) (By := B5) (as := [(.ref s), (.int (3 : Int32)), (.int (5 : Int32))]) (rest := [(.long x3), (.ref q)]) at_273 (w31 hw) (w32 hw) (w33 hw) (w34 hw) (by decide) (end_met hw s (3 : Int32) (5 : Int32) _ 3 x3 A_s rfl rfl) pd_6 rfl rfl rfl (by decide) (Nat.le_of_ble_eq_true rfl) (by decide) (by decide) (pc' := 276) rfl ?_
  rintro _ _ ⟨rfl, z3, rfl⟩
  show WP _ _ _ _ _ _ _ _ _ _ [(.long z3), (.long x3), (.ref q)]
  refine WP.callV (a := q) (z := (⟨"com/example/apportion/apportion/IdleGaps", "append", "(JJ)V"⟩ : MethodName)) (Cl := "com/example/apportion/apportion/IdleGaps") (y := (⟨"com/example/apportion/apportion/IdleGaps", "append", "(JJ)V"⟩ : MethodName)) (By := B6) (as := [(.long x3), (.long z3)]) (rest := []) at_276 (w35 hw) (w36 hw) (w38 hw) (w37 hw) (w10 hw) (w39 hw) rfl rfl (by decide) O_q.1 (app3_met hw q r0 e0 x3 z3 x0 x1 x2 y3 _ g_q g_r0 g_e0 O_q A_r0 A_e0 hes hfe hnd0) pd_7 rfl rfl rfl (by decide) (Nat.le_of_ble_eq_true rfl) (by decide) (by decide) (pc' := 279) rfl ?_
  rintro _ h12 ⟨rfl, es4, O_n, A_n, A_m, hes, hfe, Ka3⟩
  replace A_s := A_s.keep Ka3 (own_cons (by first | assumption | exact Ne.symm (by assumption) | exact Nat.ne_of_lt (by assumption) | exact Nat.ne_of_gt (by assumption)) (own_cons (by first | assumption | exact Ne.symm (by assumption) | exact Nat.ne_of_lt (by assumption) | exact Nat.ne_of_gt (by assumption)) (own_cons (by first | assumption | exact Ne.symm (by assumption) | exact Nat.ne_of_lt (by assumption) | exact Nat.ne_of_gt (by assumption)) own_nil)))
  replace O_q := O_n
  replace A_r0 := A_n
  replace A_e0 := A_m
  show WP _ _ _ _ _ _ _ _ _ _ []
  refine WP.iload at_279 rfl (pc' := 281) rfl ?_
  refine WP.iconst at_281 (z := (4 : Int32)) rfl (pc' := 282) rfl ?_
  refine WP.icmpLe at_282 (tgt := 302) (by decide) (pc' := 285) rfl (fun c282 => ?_) (fun c282 => ?_)
  · exfalso; omega
  refine WP.aload at_285 rfl rfl (pc' := 287) rfl ?_
  refine WP.aload at_287 rfl rfl (pc' := 289) rfl ?_
  refine WP.iconst at_289 (z := (4 : Int32)) rfl (pc' := 290) rfl ?_
  refine WP.laload 4 at_290 A_s (x := x4) rfl rfl (pc' := 291) rfl ?_
  refine WP.aload at_291 rfl rfl (pc' := 293) rfl ?_
  refine WP.iconst at_293 (z := (4 : Int32)) rfl (pc' := 294) rfl ?_
  refine WP.iload at_294 rfl (pc' := 296) rfl ?_
  refine WP.callS (y := (⟨"com/example/apportion/apportion/IdleGapsFloorPinLaw", "endOf", "([JII)J"⟩ : MethodName)) (By := B5) (as := [(.ref s), (.int (4 : Int32)), (.int (5 : Int32))]) (rest := [(.long x4), (.ref q)]) at_296 (w31 hw) (w32 hw) (w33 hw) (w34 hw) (by decide) (end_met hw s (4 : Int32) (5 : Int32) _ 4 x4 A_s rfl rfl) pd_6 rfl rfl rfl (by decide) (Nat.le_of_ble_eq_true rfl) (by decide) (by decide) (pc' := 299) rfl ?_
  rintro _ _ ⟨rfl, z4, rfl⟩
  show WP _ _ _ _ _ _ _ _ _ _ [(.long z4), (.long x4), (.ref q)]
  refine WP.callV (a := q) (z := (⟨"com/example/apportion/apportion/IdleGaps", "append", "(JJ)V"⟩ : MethodName)) (Cl := "com/example/apportion/apportion/IdleGaps") (y := (⟨"com/example/apportion/apportion/IdleGaps", "append", "(JJ)V"⟩ : MethodName)) (By := B6) (as := [(.long x4), (.long z4)]) (rest := []) at_299 (w35 hw) (w36 hw) (w38 hw) (w37 hw) (w10 hw) (w39 hw) rfl rfl (by decide) O_q.1 (app4_met hw q r0 e0 x4 z4 x0 x1 x2 x3 _ g_q g_r0 g_e0 O_q A_r0 A_e0 hes hfe hnd0) pd_7 rfl rfl rfl (by decide) (Nat.le_of_ble_eq_true rfl) (by decide) (by decide) (pc' := 302) rfl ?_
  rintro _ h14 ⟨rfl, r9, e9, es9, O_n, A_r9, -, -, -, -, hnd9, Ka4⟩
  replace A_s := A_s.keep Ka4 (own_cons (by first | assumption | exact Ne.symm (by assumption) | exact Nat.ne_of_lt (by assumption) | exact Nat.ne_of_gt (by assumption)) own_nil)
  replace O_q := O_n
  show WP _ _ _ _ _ _ _ _ _ _ []
  have n_qr9 : q ≠ r9 := hnd9.1
  refine WP.iload at_302 rfl (pc' := 304) rfl ?_
  refine WP.ifEq at_304 (tgt := 312) (by decide) (pc' := 307) rfl (fun c304 => ?_) (fun c304 => ?_)
  · exfalso; omega
  refine WP.aload at_307 rfl rfl (pc' := 309) rfl ?_
  refine WP.callV (a := q) (z := (⟨"com/example/apportion/apportion/IdleGaps", "dropFirst", "()V"⟩ : MethodName)) (Cl := "com/example/apportion/apportion/IdleGaps") (y := (⟨"com/example/apportion/apportion/IdleGaps", "dropFirst", "()V"⟩ : MethodName)) (By := B9) (as := []) (rest := []) at_309 (w49 hw) (w50 hw) (w52 hw) (w51 hw) (w10 hw) (w53 hw) rfl rfl (by decide) O_q.1 (drp_met hw q r9 e9 _ g_q O_q) pd_2 rfl rfl rfl (by decide) (Nat.le_of_ble_eq_true rfl) (by decide) (by decide) (pc' := 312) rfl ?_
  rintro _ h15 ⟨rfl, Kd, O_n⟩
  replace A_s := A_s.keep Kd (own_cons (by first | assumption | exact Ne.symm (by assumption) | exact Nat.ne_of_lt (by assumption) | exact Nat.ne_of_gt (by assumption)) own_nil)
  replace O_q := O_n
  replace A_r9 := A_r9.keep Kd (own_cons (by first | assumption | exact Ne.symm (by assumption) | exact Nat.ne_of_lt (by assumption) | exact Nat.ne_of_gt (by assumption)) own_nil)
  show WP _ _ _ _ _ _ _ _ _ _ []
  refine WP.iload at_312 rfl (pc' := 314) rfl ?_
  refine WP.ifEq at_314 (tgt := 321) (by decide) (pc' := 317) rfl (fun c314 => ?_) (fun c314 => ?_)
  · exfalso; omega
  refine WP.iconst at_317 (z := (1 : Int32)) rfl (pc' := 318) rfl ?_
  refine WP.goto at_318 (pc' := 322) (by decide) ?_
  refine WP.istore at_322 (pc' := 324) rfl (ls' := #[.val (.long a), .second, .val (.long t0), .second, .val (.long g), .second, .val (.int m), .val (.ref s), .val (.int (5 : Int32)), .val (.int (1 : Int32)), .val (.long t), .second, .val (.ref q), .val (.int (1 : Int32)), .unset]) rfl ?_
  refine WP.aload at_324 rfl rfl (pc' := 326) rfl ?_
  refine WP.iconst at_326 (z := (0 : Int32)) rfl (pc' := 327) rfl ?_
  refine WP.iload at_327 rfl (pc' := 329) rfl ?_
  refine WP.iload at_329 rfl (pc' := 331) rfl ?_
  refine WP.lload at_331 rfl (pc' := 333) rfl ?_
  refine WP.callS (y := (⟨"com/example/apportion/apportion/IdleGapsFloorPinLaw", "in", "([JIIIJ)I"⟩ : MethodName)) (By := B7) (as := [(.ref s), (.int (0 : Int32)), (.int (1 : Int32)), (.int (5 : Int32)), (.long t)]) (rest := []) at_333 (w41 hw) (w42 hw) (w33 hw) (w43 hw) (by decide) (in_met hw s (0 : Int32) (1 : Int32) (5 : Int32) t _ 0 x0 A_s rfl rfl) pd_4 rfl rfl rfl (by decide) (Nat.le_of_ble_eq_true rfl) (by decide) (by decide) (pc' := 336) rfl ?_
  rintro _ _ ⟨rfl, c0, rfl, hc0⟩
  show WP _ _ _ _ _ _ _ _ _ _ [(.int c0)]
  refine WP.aload at_336 rfl rfl (pc' := 338) rfl ?_
  refine WP.iconst at_338 (z := (1 : Int32)) rfl (pc' := 339) rfl ?_
  refine WP.iload at_339 rfl (pc' := 341) rfl ?_
  refine WP.iload at_341 rfl (pc' := 343) rfl ?_
  refine WP.lload at_343 rfl (pc' := 345) rfl ?_
  refine WP.callS (y := (⟨"com/example/apportion/apportion/IdleGapsFloorPinLaw", "in", "([JIIIJ)I"⟩ : MethodName)) (By := B7) (as := [(.ref s), (.int (1 : Int32)), (.int (1 : Int32)), (.int (5 : Int32)), (.long t)]) (rest := [(.int c0)]) at_345 (w41 hw) (w42 hw) (w33 hw) (w43 hw) (by decide) (in_met hw s (1 : Int32) (1 : Int32) (5 : Int32) t _ 1 x1 A_s rfl rfl) pd_4 rfl rfl rfl (by decide) (Nat.le_of_ble_eq_true rfl) (by decide) (by decide) (pc' := 348) rfl ?_
  rintro _ _ ⟨rfl, c1, rfl, hc1⟩
  show WP _ _ _ _ _ _ _ _ _ _ [(.int c1), (.int c0)]
  refine WP.iadd at_348 (pc' := 349) rfl ?_
  refine WP.aload at_349 rfl rfl (pc' := 351) rfl ?_
  refine WP.iconst at_351 (z := (2 : Int32)) rfl (pc' := 352) rfl ?_
  refine WP.iload at_352 rfl (pc' := 354) rfl ?_
  refine WP.iload at_354 rfl (pc' := 356) rfl ?_
  refine WP.lload at_356 rfl (pc' := 358) rfl ?_
  refine WP.callS (y := (⟨"com/example/apportion/apportion/IdleGapsFloorPinLaw", "in", "([JIIIJ)I"⟩ : MethodName)) (By := B7) (as := [(.ref s), (.int (2 : Int32)), (.int (1 : Int32)), (.int (5 : Int32)), (.long t)]) (rest := [(.int (c0 + c1))]) at_358 (w41 hw) (w42 hw) (w33 hw) (w43 hw) (by decide) (in_met hw s (2 : Int32) (1 : Int32) (5 : Int32) t _ 2 x2 A_s rfl rfl) pd_4 rfl rfl rfl (by decide) (Nat.le_of_ble_eq_true rfl) (by decide) (by decide) (pc' := 361) rfl ?_
  rintro _ _ ⟨rfl, c2, rfl, hc2⟩
  show WP _ _ _ _ _ _ _ _ _ _ [(.int c2), (.int (c0 + c1))]
  refine WP.iadd at_361 (pc' := 362) rfl ?_
  refine WP.aload at_362 rfl rfl (pc' := 364) rfl ?_
  refine WP.iconst at_364 (z := (3 : Int32)) rfl (pc' := 365) rfl ?_
  refine WP.iload at_365 rfl (pc' := 367) rfl ?_
  refine WP.iload at_367 rfl (pc' := 369) rfl ?_
  refine WP.lload at_369 rfl (pc' := 371) rfl ?_
  refine WP.callS (y := (⟨"com/example/apportion/apportion/IdleGapsFloorPinLaw", "in", "([JIIIJ)I"⟩ : MethodName)) (By := B7) (as := [(.ref s), (.int (3 : Int32)), (.int (1 : Int32)), (.int (5 : Int32)), (.long t)]) (rest := [(.int ((c0 + c1) + c2))]) at_371 (w41 hw) (w42 hw) (w33 hw) (w43 hw) (by decide) (in_met hw s (3 : Int32) (1 : Int32) (5 : Int32) t _ 3 x3 A_s rfl rfl) pd_4 rfl rfl rfl (by decide) (Nat.le_of_ble_eq_true rfl) (by decide) (by decide) (pc' := 374) rfl ?_
  rintro _ _ ⟨rfl, c3, rfl, hc3⟩
  show WP _ _ _ _ _ _ _ _ _ _ [(.int c3), (.int ((c0 + c1) + c2))]
  refine WP.iadd at_374 (pc' := 375) rfl ?_
  refine WP.aload at_375 rfl rfl (pc' := 377) rfl ?_
  refine WP.iconst at_377 (z := (4 : Int32)) rfl (pc' := 378) rfl ?_
  refine WP.iload at_378 rfl (pc' := 380) rfl ?_
  refine WP.iload at_380 rfl (pc' := 382) rfl ?_
  refine WP.lload at_382 rfl (pc' := 384) rfl ?_
  refine WP.callS (y := (⟨"com/example/apportion/apportion/IdleGapsFloorPinLaw", "in", "([JIIIJ)I"⟩ : MethodName)) (By := B7) (as := [(.ref s), (.int (4 : Int32)), (.int (1 : Int32)), (.int (5 : Int32)), (.long t)]) (rest := [(.int (((c0 + c1) + c2) + c3))]) at_384 (w41 hw) (w42 hw) (w33 hw) (w43 hw) (by decide) (in_met hw s (4 : Int32) (1 : Int32) (5 : Int32) t _ 4 x4 A_s rfl rfl) pd_4 rfl rfl rfl (by decide) (Nat.le_of_ble_eq_true rfl) (by decide) (by decide) (pc' := 387) rfl ?_
  rintro _ _ ⟨rfl, c4, rfl, hc4⟩
  show WP _ _ _ _ _ _ _ _ _ _ [(.int c4), (.int (((c0 + c1) + c2) + c3))]
  refine WP.iadd at_387 (pc' := 388) rfl ?_
  refine WP.iconst at_388 (z := (1 : Int32)) rfl (pc' := 389) rfl ?_
  refine WP.isub at_389 (pc' := 390) rfl ?_
  obtain ⟨ex, e_ex⟩ : ∃ z, z = (((((c0 + c1) + c2) + c3) + c4) - (1 : Int32)) := ⟨_, rfl⟩
  rw [← e_ex]
  refine WP.istore at_390 (pc' := 392) rfl (ls' := #[.val (.long a), .second, .val (.long t0), .second, .val (.long g), .second, .val (.int m), .val (.ref s), .val (.int (5 : Int32)), .val (.int (1 : Int32)), .val (.long t), .second, .val (.ref q), .val (.int (1 : Int32)), .val (.int ex)]) rfl ?_
  have f1 : (c0 + c1).toInt = c0.toInt + c1.toInt := by rw [own_iadd] <;> omega
  have f2 : (c0 + c1 + c2).toInt = c0.toInt + c1.toInt + c2.toInt := by rw [own_iadd] <;> omega
  have f3 : (c0 + c1 + c2 + c3).toInt = c0.toInt + c1.toInt + c2.toInt + c3.toInt := by rw [own_iadd] <;> omega
  have f4 : (c0 + c1 + c2 + c3 + c4).toInt = c0.toInt + c1.toInt + c2.toInt + c3.toInt + c4.toInt := by rw [own_iadd] <;> omega
  have f5 : ex.toInt = c0.toInt + c1.toInt + c2.toInt + c3.toInt + c4.toInt - 1 := by rw [e_ex, own_isub] <;> omega
  clear f1 f2 f3 f4
  refine WP.aload at_392 rfl rfl (pc' := 394) rfl ?_
  refine WP.lload at_394 rfl (pc' := 396) rfl ?_
  refine WP.callV (a := q) (z := (⟨"com/example/apportion/apportion/IdleGaps", "floor", "(J)I"⟩ : MethodName)) (Cl := "com/example/apportion/apportion/IdleGaps") (y := (⟨"com/example/apportion/apportion/IdleGaps", "floor", "(J)I"⟩ : MethodName)) (By := B8) (as := [(.long t)]) (rest := []) at_396 (w44 hw) (w45 hw) (w47 hw) (w46 hw) (w10 hw) (w48 hw) rfl rfl (by decide) O_q.1 (flo_1_5 hw q r9 e9 t x0 x1 x2 x3 x4 O_q A_r9 ⟨by omega, by omega, by omega, by omega⟩) pd_5 rfl rfl rfl (by decide) (Nat.le_of_ble_eq_true rfl) (by decide) (by decide) (pc' := 399) rfl ?_
  rintro _ _ ⟨rfl, fr, rfl, hf1, hf2, hf10, hf11, hf12, hf13⟩
  show WP _ _ _ _ _ _ _ _ _ _ [(.int fr)]
  refine WP.iload at_399 rfl (pc' := 401) rfl ?_
  refine WP.icmpNe at_401 (tgt := 408) (by decide) (pc' := 404) rfl (fun c401 => ?_) (fun c401 => ?_)
  ·
    refine WP.iconst at_408 (z := (0 : Int32)) rfl (pc' := 409) rfl ?_
    exact WP.retN at_409 (t := .boolean) rfl (by simp) (by decide) (by decide) (by exfalso; omega)
  refine WP.iconst at_404 (z := (1 : Int32)) rfl (pc' := 405) rfl ?_
  refine WP.goto at_405 (pc' := 409) (by decide) ?_
  exact WP.retN at_409 (t := .boolean) rfl (by simp) (by decide) (by decide) own_q1
theorem law_111_0 {l : Launch} {Z : State} {a0 : Array Value} (hw : HW Z a0) {n0 : Nat} {h : Heap} (a t0 g : Int64) (m : Int32) (s : Addr) (x0 x1 x2 x3 x4 : Int64) (A_s : Av Z h s .long [(.long x0), (.long x1), (.long x2), (.long x3), (.long x4)]) (g_s : n0 ≤ s) (hs : x0.toInt < x1.toInt ∧ x1.toInt < x2.toInt ∧ x2.toInt < x3.toInt ∧ x3.toInt < x4.toInt) : WP l B0 Z n0 (fun v h' => v = some (.int 1)) h 1 5 111 #[.val (.long a), .second, .val (.long t0), .second, .val (.long g), .second, .val (.int m), .val (.ref s), .val (.int (0 : Int32)), .unset, .unset, .unset, .unset, .unset, .unset] [] := by
  have k32_0 : (0 : Int32).toInt = 0 := by decide
  have k32_1 : (1 : Int32).toInt = 1 := by decide
  have k32_3 : (3 : Int32).toInt = 3 := by decide
  have k32_4 : (4 : Int32).toInt = 4 := by decide
  have k32_5 : (5 : Int32).toInt = 5 := by decide
  have k32_7 : (7 : Int32).toInt = 7 := by decide
  refine WP.iload at_111 rfl (pc' := 113) rfl ?_
  refine WP.ifLe at_113 (tgt := 130) (by decide) (pc' := 116) rfl (fun c113 => ?_) (fun c113 => ?_)
  ·
    refine WP.iconst at_130 (z := (0 : Int32)) rfl (pc' := 131) rfl ?_
    refine WP.istore at_131 (pc' := 133) rfl (ls' := #[.val (.long a), .second, .val (.long t0), .second, .val (.long g), .second, .val (.int m), .val (.ref s), .val (.int (0 : Int32)), .val (.int (0 : Int32)), .unset, .unset, .unset, .unset, .unset]) rfl ?_
    refine WP.iload at_133 rfl (pc' := 135) rfl ?_
    refine WP.iconst at_135 (z := (3 : Int32)) rfl (pc' := 136) rfl ?_
    refine WP.iushr at_136 (pc' := 137) rfl ?_
    refine WP.iconst at_137 (z := (1 : Int32)) rfl (pc' := 138) rfl ?_
    refine WP.iand at_138 (pc' := 139) rfl ?_
    refine WP.ifNe at_139 (tgt := 148) (by decide) (pc' := 142) rfl (fun c139 => ?_) (fun c139 => ?_)
    ·
      refine WP.aload at_148 rfl rfl (pc' := 150) rfl ?_
      refine WP.iload at_150 rfl (pc' := 152) rfl ?_
      refine WP.iconst at_152 (z := (4 : Int32)) rfl (pc' := 153) rfl ?_
      refine WP.iushr at_153 (pc' := 154) rfl ?_
      refine WP.bipush at_154 (z := (7 : Int32)) rfl (pc' := 156) rfl ?_
      refine WP.iand at_156 (pc' := 157) rfl ?_
      refine WP.iconst at_157 (z := (5 : Int32)) rfl (pc' := 158) rfl ?_
      refine WP.irem at_158 (by decide) (pc' := 159) rfl ?_
      have g1 : ((ushr m (4 : Int32)) &&& (7 : Int32)).toInt = (ushr m (4 : Int32)).toInt % 8 := own_mask _ _ 3 _ (by decide) (by decide) (by decide)
      have g2 : (((ushr m (4 : Int32)) &&& (7 : Int32)) % (5 : Int32)).toInt = ((ushr m (4 : Int32)) &&& (7 : Int32)).toInt % 5 := own_irem (by decide) (by omega)
      obtain ⟨i, hi_⟩ : ∃ i : Nat, (((ushr m (4 : Int32)) &&& (7 : Int32)) % (5 : Int32)).toInt = (i : Int) := ⟨(((ushr m (4 : Int32)) &&& (7 : Int32)) % (5 : Int32)).toInt.toNat, by omega⟩
      obtain ⟨y, hy⟩ := own_getJ [x0, x1, x2, x3, x4] i (by simp; omega)
      refine WP.laload i at_159 A_s (x := y) hi_ hy (pc' := 160) rfl ?_
      refine WP.iload at_160 rfl (pc' := 162) rfl ?_
      refine WP.bipush at_162 (z := (7 : Int32)) rfl (pc' := 164) rfl ?_
      refine WP.iushr at_164 (pc' := 165) rfl ?_
      refine WP.iconst at_165 (z := (3 : Int32)) rfl (pc' := 166) rfl ?_
      refine WP.iand at_166 (pc' := 167) rfl ?_
      refine WP.iconst at_167 (z := (1 : Int32)) rfl (pc' := 168) rfl ?_
      refine WP.isub at_168 (pc' := 169) rfl ?_
      refine WP.i2l at_169 (pc' := 170) rfl ?_
      refine WP.ladd at_170 (pc' := 171) rfl ?_
      refine WP.lstore at_171 (pc' := 173) rfl (ls' := #[.val (.long a), .second, .val (.long t0), .second, .val (.long g), .second, .val (.int m), .val (.ref s), .val (.int (0 : Int32)), .val (.int (0 : Int32)), .val (.long (y + (((ushr m (7 : Int32)) &&& (3 : Int32)) - (1 : Int32)).toInt64)), .second, .unset, .unset, .unset]) rfl ?_
      exact law_173_0_0 hw a t0 g m s x0 x1 x2 x3 x4 A_s g_s hs _
    refine WP.lloadN at_142 rfl (pc' := 143) rfl ?_
    refine WP.lstore at_143 (pc' := 145) rfl (ls' := #[.val (.long a), .second, .val (.long t0), .second, .val (.long g), .second, .val (.int m), .val (.ref s), .val (.int (0 : Int32)), .val (.int (0 : Int32)), .val (.long t0), .second, .unset, .unset, .unset]) rfl ?_
    refine WP.goto at_145 (pc' := 173) (by decide) ?_
    exact law_173_0_0 hw a t0 g m s x0 x1 x2 x3 x4 A_s g_s hs _
  exfalso; omega
theorem law_111_1 {l : Launch} {Z : State} {a0 : Array Value} (hw : HW Z a0) {n0 : Nat} {h : Heap} (a t0 g : Int64) (m : Int32) (s : Addr) (x0 x1 x2 x3 x4 : Int64) (A_s : Av Z h s .long [(.long x0), (.long x1), (.long x2), (.long x3), (.long x4)]) (g_s : n0 ≤ s) (hs : x0.toInt < x1.toInt ∧ x1.toInt < x2.toInt ∧ x2.toInt < x3.toInt ∧ x3.toInt < x4.toInt) : WP l B0 Z n0 (fun v h' => v = some (.int 1)) h 1 5 111 #[.val (.long a), .second, .val (.long t0), .second, .val (.long g), .second, .val (.int m), .val (.ref s), .val (.int (1 : Int32)), .unset, .unset, .unset, .unset, .unset, .unset] [] := by
  have k32_0 : (0 : Int32).toInt = 0 := by decide
  have k32_1 : (1 : Int32).toInt = 1 := by decide
  have k32_3 : (3 : Int32).toInt = 3 := by decide
  have k32_4 : (4 : Int32).toInt = 4 := by decide
  have k32_5 : (5 : Int32).toInt = 5 := by decide
  have k32_7 : (7 : Int32).toInt = 7 := by decide
  have k32_9 : (9 : Int32).toInt = 9 := by decide
  refine WP.iload at_111 rfl (pc' := 113) rfl ?_
  refine WP.ifLe at_113 (tgt := 130) (by decide) (pc' := 116) rfl (fun c113 => ?_) (fun c113 => ?_)
  · exfalso; omega
  refine WP.iload at_116 rfl (pc' := 118) rfl ?_
  refine WP.bipush at_118 (z := (9 : Int32)) rfl (pc' := 120) rfl ?_
  refine WP.iushr at_120 (pc' := 121) rfl ?_
  refine WP.iconst at_121 (z := (1 : Int32)) rfl (pc' := 122) rfl ?_
  refine WP.iand at_122 (pc' := 123) rfl ?_
  refine WP.ifEq at_123 (tgt := 130) (by decide) (pc' := 126) rfl (fun c123 => ?_) (fun c123 => ?_)
  ·
    refine WP.iconst at_130 (z := (0 : Int32)) rfl (pc' := 131) rfl ?_
    refine WP.istore at_131 (pc' := 133) rfl (ls' := #[.val (.long a), .second, .val (.long t0), .second, .val (.long g), .second, .val (.int m), .val (.ref s), .val (.int (1 : Int32)), .val (.int (0 : Int32)), .unset, .unset, .unset, .unset, .unset]) rfl ?_
    refine WP.iload at_133 rfl (pc' := 135) rfl ?_
    refine WP.iconst at_135 (z := (3 : Int32)) rfl (pc' := 136) rfl ?_
    refine WP.iushr at_136 (pc' := 137) rfl ?_
    refine WP.iconst at_137 (z := (1 : Int32)) rfl (pc' := 138) rfl ?_
    refine WP.iand at_138 (pc' := 139) rfl ?_
    refine WP.ifNe at_139 (tgt := 148) (by decide) (pc' := 142) rfl (fun c139 => ?_) (fun c139 => ?_)
    ·
      refine WP.aload at_148 rfl rfl (pc' := 150) rfl ?_
      refine WP.iload at_150 rfl (pc' := 152) rfl ?_
      refine WP.iconst at_152 (z := (4 : Int32)) rfl (pc' := 153) rfl ?_
      refine WP.iushr at_153 (pc' := 154) rfl ?_
      refine WP.bipush at_154 (z := (7 : Int32)) rfl (pc' := 156) rfl ?_
      refine WP.iand at_156 (pc' := 157) rfl ?_
      refine WP.iconst at_157 (z := (5 : Int32)) rfl (pc' := 158) rfl ?_
      refine WP.irem at_158 (by decide) (pc' := 159) rfl ?_
      have g1 : ((ushr m (4 : Int32)) &&& (7 : Int32)).toInt = (ushr m (4 : Int32)).toInt % 8 := own_mask _ _ 3 _ (by decide) (by decide) (by decide)
      have g2 : (((ushr m (4 : Int32)) &&& (7 : Int32)) % (5 : Int32)).toInt = ((ushr m (4 : Int32)) &&& (7 : Int32)).toInt % 5 := own_irem (by decide) (by omega)
      obtain ⟨i, hi_⟩ : ∃ i : Nat, (((ushr m (4 : Int32)) &&& (7 : Int32)) % (5 : Int32)).toInt = (i : Int) := ⟨(((ushr m (4 : Int32)) &&& (7 : Int32)) % (5 : Int32)).toInt.toNat, by omega⟩
      obtain ⟨y, hy⟩ := own_getJ [x0, x1, x2, x3, x4] i (by simp; omega)
      refine WP.laload i at_159 A_s (x := y) hi_ hy (pc' := 160) rfl ?_
      refine WP.iload at_160 rfl (pc' := 162) rfl ?_
      refine WP.bipush at_162 (z := (7 : Int32)) rfl (pc' := 164) rfl ?_
      refine WP.iushr at_164 (pc' := 165) rfl ?_
      refine WP.iconst at_165 (z := (3 : Int32)) rfl (pc' := 166) rfl ?_
      refine WP.iand at_166 (pc' := 167) rfl ?_
      refine WP.iconst at_167 (z := (1 : Int32)) rfl (pc' := 168) rfl ?_
      refine WP.isub at_168 (pc' := 169) rfl ?_
      refine WP.i2l at_169 (pc' := 170) rfl ?_
      refine WP.ladd at_170 (pc' := 171) rfl ?_
      refine WP.lstore at_171 (pc' := 173) rfl (ls' := #[.val (.long a), .second, .val (.long t0), .second, .val (.long g), .second, .val (.int m), .val (.ref s), .val (.int (1 : Int32)), .val (.int (0 : Int32)), .val (.long (y + (((ushr m (7 : Int32)) &&& (3 : Int32)) - (1 : Int32)).toInt64)), .second, .unset, .unset, .unset]) rfl ?_
      exact law_173_1_0 hw a t0 g m s x0 x1 x2 x3 x4 A_s g_s hs _
    refine WP.lloadN at_142 rfl (pc' := 143) rfl ?_
    refine WP.lstore at_143 (pc' := 145) rfl (ls' := #[.val (.long a), .second, .val (.long t0), .second, .val (.long g), .second, .val (.int m), .val (.ref s), .val (.int (1 : Int32)), .val (.int (0 : Int32)), .val (.long t0), .second, .unset, .unset, .unset]) rfl ?_
    refine WP.goto at_145 (pc' := 173) (by decide) ?_
    exact law_173_1_0 hw a t0 g m s x0 x1 x2 x3 x4 A_s g_s hs _
  refine WP.iconst at_126 (z := (1 : Int32)) rfl (pc' := 127) rfl ?_
  refine WP.goto at_127 (pc' := 131) (by decide) ?_
  refine WP.istore at_131 (pc' := 133) rfl (ls' := #[.val (.long a), .second, .val (.long t0), .second, .val (.long g), .second, .val (.int m), .val (.ref s), .val (.int (1 : Int32)), .val (.int (1 : Int32)), .unset, .unset, .unset, .unset, .unset]) rfl ?_
  refine WP.iload at_133 rfl (pc' := 135) rfl ?_
  refine WP.iconst at_135 (z := (3 : Int32)) rfl (pc' := 136) rfl ?_
  refine WP.iushr at_136 (pc' := 137) rfl ?_
  refine WP.iconst at_137 (z := (1 : Int32)) rfl (pc' := 138) rfl ?_
  refine WP.iand at_138 (pc' := 139) rfl ?_
  refine WP.ifNe at_139 (tgt := 148) (by decide) (pc' := 142) rfl (fun c139 => ?_) (fun c139 => ?_)
  ·
    refine WP.aload at_148 rfl rfl (pc' := 150) rfl ?_
    refine WP.iload at_150 rfl (pc' := 152) rfl ?_
    refine WP.iconst at_152 (z := (4 : Int32)) rfl (pc' := 153) rfl ?_
    refine WP.iushr at_153 (pc' := 154) rfl ?_
    refine WP.bipush at_154 (z := (7 : Int32)) rfl (pc' := 156) rfl ?_
    refine WP.iand at_156 (pc' := 157) rfl ?_
    refine WP.iconst at_157 (z := (5 : Int32)) rfl (pc' := 158) rfl ?_
    refine WP.irem at_158 (by decide) (pc' := 159) rfl ?_
    have g1 : ((ushr m (4 : Int32)) &&& (7 : Int32)).toInt = (ushr m (4 : Int32)).toInt % 8 := own_mask _ _ 3 _ (by decide) (by decide) (by decide)
    have g2 : (((ushr m (4 : Int32)) &&& (7 : Int32)) % (5 : Int32)).toInt = ((ushr m (4 : Int32)) &&& (7 : Int32)).toInt % 5 := own_irem (by decide) (by omega)
    obtain ⟨i, hi_⟩ : ∃ i : Nat, (((ushr m (4 : Int32)) &&& (7 : Int32)) % (5 : Int32)).toInt = (i : Int) := ⟨(((ushr m (4 : Int32)) &&& (7 : Int32)) % (5 : Int32)).toInt.toNat, by omega⟩
    obtain ⟨y, hy⟩ := own_getJ [x0, x1, x2, x3, x4] i (by simp; omega)
    refine WP.laload i at_159 A_s (x := y) hi_ hy (pc' := 160) rfl ?_
    refine WP.iload at_160 rfl (pc' := 162) rfl ?_
    refine WP.bipush at_162 (z := (7 : Int32)) rfl (pc' := 164) rfl ?_
    refine WP.iushr at_164 (pc' := 165) rfl ?_
    refine WP.iconst at_165 (z := (3 : Int32)) rfl (pc' := 166) rfl ?_
    refine WP.iand at_166 (pc' := 167) rfl ?_
    refine WP.iconst at_167 (z := (1 : Int32)) rfl (pc' := 168) rfl ?_
    refine WP.isub at_168 (pc' := 169) rfl ?_
    refine WP.i2l at_169 (pc' := 170) rfl ?_
    refine WP.ladd at_170 (pc' := 171) rfl ?_
    refine WP.lstore at_171 (pc' := 173) rfl (ls' := #[.val (.long a), .second, .val (.long t0), .second, .val (.long g), .second, .val (.int m), .val (.ref s), .val (.int (1 : Int32)), .val (.int (1 : Int32)), .val (.long (y + (((ushr m (7 : Int32)) &&& (3 : Int32)) - (1 : Int32)).toInt64)), .second, .unset, .unset, .unset]) rfl ?_
    exact law_173_1_1 hw a t0 g m s x0 x1 x2 x3 x4 A_s g_s hs _
  refine WP.lloadN at_142 rfl (pc' := 143) rfl ?_
  refine WP.lstore at_143 (pc' := 145) rfl (ls' := #[.val (.long a), .second, .val (.long t0), .second, .val (.long g), .second, .val (.int m), .val (.ref s), .val (.int (1 : Int32)), .val (.int (1 : Int32)), .val (.long t0), .second, .unset, .unset, .unset]) rfl ?_
  refine WP.goto at_145 (pc' := 173) (by decide) ?_
  exact law_173_1_1 hw a t0 g m s x0 x1 x2 x3 x4 A_s g_s hs _
theorem law_111_2 {l : Launch} {Z : State} {a0 : Array Value} (hw : HW Z a0) {n0 : Nat} {h : Heap} (a t0 g : Int64) (m : Int32) (s : Addr) (x0 x1 x2 x3 x4 : Int64) (A_s : Av Z h s .long [(.long x0), (.long x1), (.long x2), (.long x3), (.long x4)]) (g_s : n0 ≤ s) (hs : x0.toInt < x1.toInt ∧ x1.toInt < x2.toInt ∧ x2.toInt < x3.toInt ∧ x3.toInt < x4.toInt) : WP l B0 Z n0 (fun v h' => v = some (.int 1)) h 1 5 111 #[.val (.long a), .second, .val (.long t0), .second, .val (.long g), .second, .val (.int m), .val (.ref s), .val (.int (2 : Int32)), .unset, .unset, .unset, .unset, .unset, .unset] [] := by
  have k32_0 : (0 : Int32).toInt = 0 := by decide
  have k32_1 : (1 : Int32).toInt = 1 := by decide
  have k32_2 : (2 : Int32).toInt = 2 := by decide
  have k32_3 : (3 : Int32).toInt = 3 := by decide
  have k32_4 : (4 : Int32).toInt = 4 := by decide
  have k32_5 : (5 : Int32).toInt = 5 := by decide
  have k32_7 : (7 : Int32).toInt = 7 := by decide
  have k32_9 : (9 : Int32).toInt = 9 := by decide
  refine WP.iload at_111 rfl (pc' := 113) rfl ?_
  refine WP.ifLe at_113 (tgt := 130) (by decide) (pc' := 116) rfl (fun c113 => ?_) (fun c113 => ?_)
  · exfalso; omega
  refine WP.iload at_116 rfl (pc' := 118) rfl ?_
  refine WP.bipush at_118 (z := (9 : Int32)) rfl (pc' := 120) rfl ?_
  refine WP.iushr at_120 (pc' := 121) rfl ?_
  refine WP.iconst at_121 (z := (1 : Int32)) rfl (pc' := 122) rfl ?_
  refine WP.iand at_122 (pc' := 123) rfl ?_
  refine WP.ifEq at_123 (tgt := 130) (by decide) (pc' := 126) rfl (fun c123 => ?_) (fun c123 => ?_)
  ·
    refine WP.iconst at_130 (z := (0 : Int32)) rfl (pc' := 131) rfl ?_
    refine WP.istore at_131 (pc' := 133) rfl (ls' := #[.val (.long a), .second, .val (.long t0), .second, .val (.long g), .second, .val (.int m), .val (.ref s), .val (.int (2 : Int32)), .val (.int (0 : Int32)), .unset, .unset, .unset, .unset, .unset]) rfl ?_
    refine WP.iload at_133 rfl (pc' := 135) rfl ?_
    refine WP.iconst at_135 (z := (3 : Int32)) rfl (pc' := 136) rfl ?_
    refine WP.iushr at_136 (pc' := 137) rfl ?_
    refine WP.iconst at_137 (z := (1 : Int32)) rfl (pc' := 138) rfl ?_
    refine WP.iand at_138 (pc' := 139) rfl ?_
    refine WP.ifNe at_139 (tgt := 148) (by decide) (pc' := 142) rfl (fun c139 => ?_) (fun c139 => ?_)
    ·
      refine WP.aload at_148 rfl rfl (pc' := 150) rfl ?_
      refine WP.iload at_150 rfl (pc' := 152) rfl ?_
      refine WP.iconst at_152 (z := (4 : Int32)) rfl (pc' := 153) rfl ?_
      refine WP.iushr at_153 (pc' := 154) rfl ?_
      refine WP.bipush at_154 (z := (7 : Int32)) rfl (pc' := 156) rfl ?_
      refine WP.iand at_156 (pc' := 157) rfl ?_
      refine WP.iconst at_157 (z := (5 : Int32)) rfl (pc' := 158) rfl ?_
      refine WP.irem at_158 (by decide) (pc' := 159) rfl ?_
      have g1 : ((ushr m (4 : Int32)) &&& (7 : Int32)).toInt = (ushr m (4 : Int32)).toInt % 8 := own_mask _ _ 3 _ (by decide) (by decide) (by decide)
      have g2 : (((ushr m (4 : Int32)) &&& (7 : Int32)) % (5 : Int32)).toInt = ((ushr m (4 : Int32)) &&& (7 : Int32)).toInt % 5 := own_irem (by decide) (by omega)
      obtain ⟨i, hi_⟩ : ∃ i : Nat, (((ushr m (4 : Int32)) &&& (7 : Int32)) % (5 : Int32)).toInt = (i : Int) := ⟨(((ushr m (4 : Int32)) &&& (7 : Int32)) % (5 : Int32)).toInt.toNat, by omega⟩
      obtain ⟨y, hy⟩ := own_getJ [x0, x1, x2, x3, x4] i (by simp; omega)
      refine WP.laload i at_159 A_s (x := y) hi_ hy (pc' := 160) rfl ?_
      refine WP.iload at_160 rfl (pc' := 162) rfl ?_
      refine WP.bipush at_162 (z := (7 : Int32)) rfl (pc' := 164) rfl ?_
      refine WP.iushr at_164 (pc' := 165) rfl ?_
      refine WP.iconst at_165 (z := (3 : Int32)) rfl (pc' := 166) rfl ?_
      refine WP.iand at_166 (pc' := 167) rfl ?_
      refine WP.iconst at_167 (z := (1 : Int32)) rfl (pc' := 168) rfl ?_
      refine WP.isub at_168 (pc' := 169) rfl ?_
      refine WP.i2l at_169 (pc' := 170) rfl ?_
      refine WP.ladd at_170 (pc' := 171) rfl ?_
      refine WP.lstore at_171 (pc' := 173) rfl (ls' := #[.val (.long a), .second, .val (.long t0), .second, .val (.long g), .second, .val (.int m), .val (.ref s), .val (.int (2 : Int32)), .val (.int (0 : Int32)), .val (.long (y + (((ushr m (7 : Int32)) &&& (3 : Int32)) - (1 : Int32)).toInt64)), .second, .unset, .unset, .unset]) rfl ?_
      exact law_173_2_0 hw a t0 g m s x0 x1 x2 x3 x4 A_s g_s hs _
    refine WP.lloadN at_142 rfl (pc' := 143) rfl ?_
    refine WP.lstore at_143 (pc' := 145) rfl (ls' := #[.val (.long a), .second, .val (.long t0), .second, .val (.long g), .second, .val (.int m), .val (.ref s), .val (.int (2 : Int32)), .val (.int (0 : Int32)), .val (.long t0), .second, .unset, .unset, .unset]) rfl ?_
    refine WP.goto at_145 (pc' := 173) (by decide) ?_
    exact law_173_2_0 hw a t0 g m s x0 x1 x2 x3 x4 A_s g_s hs _
  refine WP.iconst at_126 (z := (1 : Int32)) rfl (pc' := 127) rfl ?_
  refine WP.goto at_127 (pc' := 131) (by decide) ?_
  refine WP.istore at_131 (pc' := 133) rfl (ls' := #[.val (.long a), .second, .val (.long t0), .second, .val (.long g), .second, .val (.int m), .val (.ref s), .val (.int (2 : Int32)), .val (.int (1 : Int32)), .unset, .unset, .unset, .unset, .unset]) rfl ?_
  refine WP.iload at_133 rfl (pc' := 135) rfl ?_
  refine WP.iconst at_135 (z := (3 : Int32)) rfl (pc' := 136) rfl ?_
  refine WP.iushr at_136 (pc' := 137) rfl ?_
  refine WP.iconst at_137 (z := (1 : Int32)) rfl (pc' := 138) rfl ?_
  refine WP.iand at_138 (pc' := 139) rfl ?_
  refine WP.ifNe at_139 (tgt := 148) (by decide) (pc' := 142) rfl (fun c139 => ?_) (fun c139 => ?_)
  ·
    refine WP.aload at_148 rfl rfl (pc' := 150) rfl ?_
    refine WP.iload at_150 rfl (pc' := 152) rfl ?_
    refine WP.iconst at_152 (z := (4 : Int32)) rfl (pc' := 153) rfl ?_
    refine WP.iushr at_153 (pc' := 154) rfl ?_
    refine WP.bipush at_154 (z := (7 : Int32)) rfl (pc' := 156) rfl ?_
    refine WP.iand at_156 (pc' := 157) rfl ?_
    refine WP.iconst at_157 (z := (5 : Int32)) rfl (pc' := 158) rfl ?_
    refine WP.irem at_158 (by decide) (pc' := 159) rfl ?_
    have g1 : ((ushr m (4 : Int32)) &&& (7 : Int32)).toInt = (ushr m (4 : Int32)).toInt % 8 := own_mask _ _ 3 _ (by decide) (by decide) (by decide)
    have g2 : (((ushr m (4 : Int32)) &&& (7 : Int32)) % (5 : Int32)).toInt = ((ushr m (4 : Int32)) &&& (7 : Int32)).toInt % 5 := own_irem (by decide) (by omega)
    obtain ⟨i, hi_⟩ : ∃ i : Nat, (((ushr m (4 : Int32)) &&& (7 : Int32)) % (5 : Int32)).toInt = (i : Int) := ⟨(((ushr m (4 : Int32)) &&& (7 : Int32)) % (5 : Int32)).toInt.toNat, by omega⟩
    obtain ⟨y, hy⟩ := own_getJ [x0, x1, x2, x3, x4] i (by simp; omega)
    refine WP.laload i at_159 A_s (x := y) hi_ hy (pc' := 160) rfl ?_
    refine WP.iload at_160 rfl (pc' := 162) rfl ?_
    refine WP.bipush at_162 (z := (7 : Int32)) rfl (pc' := 164) rfl ?_
    refine WP.iushr at_164 (pc' := 165) rfl ?_
    refine WP.iconst at_165 (z := (3 : Int32)) rfl (pc' := 166) rfl ?_
    refine WP.iand at_166 (pc' := 167) rfl ?_
    refine WP.iconst at_167 (z := (1 : Int32)) rfl (pc' := 168) rfl ?_
    refine WP.isub at_168 (pc' := 169) rfl ?_
    refine WP.i2l at_169 (pc' := 170) rfl ?_
    refine WP.ladd at_170 (pc' := 171) rfl ?_
    refine WP.lstore at_171 (pc' := 173) rfl (ls' := #[.val (.long a), .second, .val (.long t0), .second, .val (.long g), .second, .val (.int m), .val (.ref s), .val (.int (2 : Int32)), .val (.int (1 : Int32)), .val (.long (y + (((ushr m (7 : Int32)) &&& (3 : Int32)) - (1 : Int32)).toInt64)), .second, .unset, .unset, .unset]) rfl ?_
    exact law_173_2_1 hw a t0 g m s x0 x1 x2 x3 x4 A_s g_s hs _
  refine WP.lloadN at_142 rfl (pc' := 143) rfl ?_
  refine WP.lstore at_143 (pc' := 145) rfl (ls' := #[.val (.long a), .second, .val (.long t0), .second, .val (.long g), .second, .val (.int m), .val (.ref s), .val (.int (2 : Int32)), .val (.int (1 : Int32)), .val (.long t0), .second, .unset, .unset, .unset]) rfl ?_
  refine WP.goto at_145 (pc' := 173) (by decide) ?_
  exact law_173_2_1 hw a t0 g m s x0 x1 x2 x3 x4 A_s g_s hs _
theorem law_111_3 {l : Launch} {Z : State} {a0 : Array Value} (hw : HW Z a0) {n0 : Nat} {h : Heap} (a t0 g : Int64) (m : Int32) (s : Addr) (x0 x1 x2 x3 x4 : Int64) (A_s : Av Z h s .long [(.long x0), (.long x1), (.long x2), (.long x3), (.long x4)]) (g_s : n0 ≤ s) (hs : x0.toInt < x1.toInt ∧ x1.toInt < x2.toInt ∧ x2.toInt < x3.toInt ∧ x3.toInt < x4.toInt) : WP l B0 Z n0 (fun v h' => v = some (.int 1)) h 1 5 111 #[.val (.long a), .second, .val (.long t0), .second, .val (.long g), .second, .val (.int m), .val (.ref s), .val (.int (3 : Int32)), .unset, .unset, .unset, .unset, .unset, .unset] [] := by
  have k32_0 : (0 : Int32).toInt = 0 := by decide
  have k32_1 : (1 : Int32).toInt = 1 := by decide
  have k32_3 : (3 : Int32).toInt = 3 := by decide
  have k32_4 : (4 : Int32).toInt = 4 := by decide
  have k32_5 : (5 : Int32).toInt = 5 := by decide
  have k32_7 : (7 : Int32).toInt = 7 := by decide
  have k32_9 : (9 : Int32).toInt = 9 := by decide
  refine WP.iload at_111 rfl (pc' := 113) rfl ?_
  refine WP.ifLe at_113 (tgt := 130) (by decide) (pc' := 116) rfl (fun c113 => ?_) (fun c113 => ?_)
  · exfalso; omega
  refine WP.iload at_116 rfl (pc' := 118) rfl ?_
  refine WP.bipush at_118 (z := (9 : Int32)) rfl (pc' := 120) rfl ?_
  refine WP.iushr at_120 (pc' := 121) rfl ?_
  refine WP.iconst at_121 (z := (1 : Int32)) rfl (pc' := 122) rfl ?_
  refine WP.iand at_122 (pc' := 123) rfl ?_
  refine WP.ifEq at_123 (tgt := 130) (by decide) (pc' := 126) rfl (fun c123 => ?_) (fun c123 => ?_)
  ·
    refine WP.iconst at_130 (z := (0 : Int32)) rfl (pc' := 131) rfl ?_
    refine WP.istore at_131 (pc' := 133) rfl (ls' := #[.val (.long a), .second, .val (.long t0), .second, .val (.long g), .second, .val (.int m), .val (.ref s), .val (.int (3 : Int32)), .val (.int (0 : Int32)), .unset, .unset, .unset, .unset, .unset]) rfl ?_
    refine WP.iload at_133 rfl (pc' := 135) rfl ?_
    refine WP.iconst at_135 (z := (3 : Int32)) rfl (pc' := 136) rfl ?_
    refine WP.iushr at_136 (pc' := 137) rfl ?_
    refine WP.iconst at_137 (z := (1 : Int32)) rfl (pc' := 138) rfl ?_
    refine WP.iand at_138 (pc' := 139) rfl ?_
    refine WP.ifNe at_139 (tgt := 148) (by decide) (pc' := 142) rfl (fun c139 => ?_) (fun c139 => ?_)
    ·
      refine WP.aload at_148 rfl rfl (pc' := 150) rfl ?_
      refine WP.iload at_150 rfl (pc' := 152) rfl ?_
      refine WP.iconst at_152 (z := (4 : Int32)) rfl (pc' := 153) rfl ?_
      refine WP.iushr at_153 (pc' := 154) rfl ?_
      refine WP.bipush at_154 (z := (7 : Int32)) rfl (pc' := 156) rfl ?_
      refine WP.iand at_156 (pc' := 157) rfl ?_
      refine WP.iconst at_157 (z := (5 : Int32)) rfl (pc' := 158) rfl ?_
      refine WP.irem at_158 (by decide) (pc' := 159) rfl ?_
      have g1 : ((ushr m (4 : Int32)) &&& (7 : Int32)).toInt = (ushr m (4 : Int32)).toInt % 8 := own_mask _ _ 3 _ (by decide) (by decide) (by decide)
      have g2 : (((ushr m (4 : Int32)) &&& (7 : Int32)) % (5 : Int32)).toInt = ((ushr m (4 : Int32)) &&& (7 : Int32)).toInt % 5 := own_irem (by decide) (by omega)
      obtain ⟨i, hi_⟩ : ∃ i : Nat, (((ushr m (4 : Int32)) &&& (7 : Int32)) % (5 : Int32)).toInt = (i : Int) := ⟨(((ushr m (4 : Int32)) &&& (7 : Int32)) % (5 : Int32)).toInt.toNat, by omega⟩
      obtain ⟨y, hy⟩ := own_getJ [x0, x1, x2, x3, x4] i (by simp; omega)
      refine WP.laload i at_159 A_s (x := y) hi_ hy (pc' := 160) rfl ?_
      refine WP.iload at_160 rfl (pc' := 162) rfl ?_
      refine WP.bipush at_162 (z := (7 : Int32)) rfl (pc' := 164) rfl ?_
      refine WP.iushr at_164 (pc' := 165) rfl ?_
      refine WP.iconst at_165 (z := (3 : Int32)) rfl (pc' := 166) rfl ?_
      refine WP.iand at_166 (pc' := 167) rfl ?_
      refine WP.iconst at_167 (z := (1 : Int32)) rfl (pc' := 168) rfl ?_
      refine WP.isub at_168 (pc' := 169) rfl ?_
      refine WP.i2l at_169 (pc' := 170) rfl ?_
      refine WP.ladd at_170 (pc' := 171) rfl ?_
      refine WP.lstore at_171 (pc' := 173) rfl (ls' := #[.val (.long a), .second, .val (.long t0), .second, .val (.long g), .second, .val (.int m), .val (.ref s), .val (.int (3 : Int32)), .val (.int (0 : Int32)), .val (.long (y + (((ushr m (7 : Int32)) &&& (3 : Int32)) - (1 : Int32)).toInt64)), .second, .unset, .unset, .unset]) rfl ?_
      exact law_173_3_0 hw a t0 g m s x0 x1 x2 x3 x4 A_s g_s hs _
    refine WP.lloadN at_142 rfl (pc' := 143) rfl ?_
    refine WP.lstore at_143 (pc' := 145) rfl (ls' := #[.val (.long a), .second, .val (.long t0), .second, .val (.long g), .second, .val (.int m), .val (.ref s), .val (.int (3 : Int32)), .val (.int (0 : Int32)), .val (.long t0), .second, .unset, .unset, .unset]) rfl ?_
    refine WP.goto at_145 (pc' := 173) (by decide) ?_
    exact law_173_3_0 hw a t0 g m s x0 x1 x2 x3 x4 A_s g_s hs _
  refine WP.iconst at_126 (z := (1 : Int32)) rfl (pc' := 127) rfl ?_
  refine WP.goto at_127 (pc' := 131) (by decide) ?_
  refine WP.istore at_131 (pc' := 133) rfl (ls' := #[.val (.long a), .second, .val (.long t0), .second, .val (.long g), .second, .val (.int m), .val (.ref s), .val (.int (3 : Int32)), .val (.int (1 : Int32)), .unset, .unset, .unset, .unset, .unset]) rfl ?_
  refine WP.iload at_133 rfl (pc' := 135) rfl ?_
  refine WP.iconst at_135 (z := (3 : Int32)) rfl (pc' := 136) rfl ?_
  refine WP.iushr at_136 (pc' := 137) rfl ?_
  refine WP.iconst at_137 (z := (1 : Int32)) rfl (pc' := 138) rfl ?_
  refine WP.iand at_138 (pc' := 139) rfl ?_
  refine WP.ifNe at_139 (tgt := 148) (by decide) (pc' := 142) rfl (fun c139 => ?_) (fun c139 => ?_)
  ·
    refine WP.aload at_148 rfl rfl (pc' := 150) rfl ?_
    refine WP.iload at_150 rfl (pc' := 152) rfl ?_
    refine WP.iconst at_152 (z := (4 : Int32)) rfl (pc' := 153) rfl ?_
    refine WP.iushr at_153 (pc' := 154) rfl ?_
    refine WP.bipush at_154 (z := (7 : Int32)) rfl (pc' := 156) rfl ?_
    refine WP.iand at_156 (pc' := 157) rfl ?_
    refine WP.iconst at_157 (z := (5 : Int32)) rfl (pc' := 158) rfl ?_
    refine WP.irem at_158 (by decide) (pc' := 159) rfl ?_
    have g1 : ((ushr m (4 : Int32)) &&& (7 : Int32)).toInt = (ushr m (4 : Int32)).toInt % 8 := own_mask _ _ 3 _ (by decide) (by decide) (by decide)
    have g2 : (((ushr m (4 : Int32)) &&& (7 : Int32)) % (5 : Int32)).toInt = ((ushr m (4 : Int32)) &&& (7 : Int32)).toInt % 5 := own_irem (by decide) (by omega)
    obtain ⟨i, hi_⟩ : ∃ i : Nat, (((ushr m (4 : Int32)) &&& (7 : Int32)) % (5 : Int32)).toInt = (i : Int) := ⟨(((ushr m (4 : Int32)) &&& (7 : Int32)) % (5 : Int32)).toInt.toNat, by omega⟩
    obtain ⟨y, hy⟩ := own_getJ [x0, x1, x2, x3, x4] i (by simp; omega)
    refine WP.laload i at_159 A_s (x := y) hi_ hy (pc' := 160) rfl ?_
    refine WP.iload at_160 rfl (pc' := 162) rfl ?_
    refine WP.bipush at_162 (z := (7 : Int32)) rfl (pc' := 164) rfl ?_
    refine WP.iushr at_164 (pc' := 165) rfl ?_
    refine WP.iconst at_165 (z := (3 : Int32)) rfl (pc' := 166) rfl ?_
    refine WP.iand at_166 (pc' := 167) rfl ?_
    refine WP.iconst at_167 (z := (1 : Int32)) rfl (pc' := 168) rfl ?_
    refine WP.isub at_168 (pc' := 169) rfl ?_
    refine WP.i2l at_169 (pc' := 170) rfl ?_
    refine WP.ladd at_170 (pc' := 171) rfl ?_
    refine WP.lstore at_171 (pc' := 173) rfl (ls' := #[.val (.long a), .second, .val (.long t0), .second, .val (.long g), .second, .val (.int m), .val (.ref s), .val (.int (3 : Int32)), .val (.int (1 : Int32)), .val (.long (y + (((ushr m (7 : Int32)) &&& (3 : Int32)) - (1 : Int32)).toInt64)), .second, .unset, .unset, .unset]) rfl ?_
    exact law_173_3_1 hw a t0 g m s x0 x1 x2 x3 x4 A_s g_s hs _
  refine WP.lloadN at_142 rfl (pc' := 143) rfl ?_
  refine WP.lstore at_143 (pc' := 145) rfl (ls' := #[.val (.long a), .second, .val (.long t0), .second, .val (.long g), .second, .val (.int m), .val (.ref s), .val (.int (3 : Int32)), .val (.int (1 : Int32)), .val (.long t0), .second, .unset, .unset, .unset]) rfl ?_
  refine WP.goto at_145 (pc' := 173) (by decide) ?_
  exact law_173_3_1 hw a t0 g m s x0 x1 x2 x3 x4 A_s g_s hs _
theorem law_111_4 {l : Launch} {Z : State} {a0 : Array Value} (hw : HW Z a0) {n0 : Nat} {h : Heap} (a t0 g : Int64) (m : Int32) (s : Addr) (x0 x1 x2 x3 x4 : Int64) (A_s : Av Z h s .long [(.long x0), (.long x1), (.long x2), (.long x3), (.long x4)]) (g_s : n0 ≤ s) (hs : x0.toInt < x1.toInt ∧ x1.toInt < x2.toInt ∧ x2.toInt < x3.toInt ∧ x3.toInt < x4.toInt) : WP l B0 Z n0 (fun v h' => v = some (.int 1)) h 1 5 111 #[.val (.long a), .second, .val (.long t0), .second, .val (.long g), .second, .val (.int m), .val (.ref s), .val (.int (4 : Int32)), .unset, .unset, .unset, .unset, .unset, .unset] [] := by
  have k32_0 : (0 : Int32).toInt = 0 := by decide
  have k32_1 : (1 : Int32).toInt = 1 := by decide
  have k32_3 : (3 : Int32).toInt = 3 := by decide
  have k32_4 : (4 : Int32).toInt = 4 := by decide
  have k32_5 : (5 : Int32).toInt = 5 := by decide
  have k32_7 : (7 : Int32).toInt = 7 := by decide
  have k32_9 : (9 : Int32).toInt = 9 := by decide
  refine WP.iload at_111 rfl (pc' := 113) rfl ?_
  refine WP.ifLe at_113 (tgt := 130) (by decide) (pc' := 116) rfl (fun c113 => ?_) (fun c113 => ?_)
  · exfalso; omega
  refine WP.iload at_116 rfl (pc' := 118) rfl ?_
  refine WP.bipush at_118 (z := (9 : Int32)) rfl (pc' := 120) rfl ?_
  refine WP.iushr at_120 (pc' := 121) rfl ?_
  refine WP.iconst at_121 (z := (1 : Int32)) rfl (pc' := 122) rfl ?_
  refine WP.iand at_122 (pc' := 123) rfl ?_
  refine WP.ifEq at_123 (tgt := 130) (by decide) (pc' := 126) rfl (fun c123 => ?_) (fun c123 => ?_)
  ·
    refine WP.iconst at_130 (z := (0 : Int32)) rfl (pc' := 131) rfl ?_
    refine WP.istore at_131 (pc' := 133) rfl (ls' := #[.val (.long a), .second, .val (.long t0), .second, .val (.long g), .second, .val (.int m), .val (.ref s), .val (.int (4 : Int32)), .val (.int (0 : Int32)), .unset, .unset, .unset, .unset, .unset]) rfl ?_
    refine WP.iload at_133 rfl (pc' := 135) rfl ?_
    refine WP.iconst at_135 (z := (3 : Int32)) rfl (pc' := 136) rfl ?_
    refine WP.iushr at_136 (pc' := 137) rfl ?_
    refine WP.iconst at_137 (z := (1 : Int32)) rfl (pc' := 138) rfl ?_
    refine WP.iand at_138 (pc' := 139) rfl ?_
    refine WP.ifNe at_139 (tgt := 148) (by decide) (pc' := 142) rfl (fun c139 => ?_) (fun c139 => ?_)
    ·
      refine WP.aload at_148 rfl rfl (pc' := 150) rfl ?_
      refine WP.iload at_150 rfl (pc' := 152) rfl ?_
      refine WP.iconst at_152 (z := (4 : Int32)) rfl (pc' := 153) rfl ?_
      refine WP.iushr at_153 (pc' := 154) rfl ?_
      refine WP.bipush at_154 (z := (7 : Int32)) rfl (pc' := 156) rfl ?_
      refine WP.iand at_156 (pc' := 157) rfl ?_
      refine WP.iconst at_157 (z := (5 : Int32)) rfl (pc' := 158) rfl ?_
      refine WP.irem at_158 (by decide) (pc' := 159) rfl ?_
      have g1 : ((ushr m (4 : Int32)) &&& (7 : Int32)).toInt = (ushr m (4 : Int32)).toInt % 8 := own_mask _ _ 3 _ (by decide) (by decide) (by decide)
      have g2 : (((ushr m (4 : Int32)) &&& (7 : Int32)) % (5 : Int32)).toInt = ((ushr m (4 : Int32)) &&& (7 : Int32)).toInt % 5 := own_irem (by decide) (by omega)
      obtain ⟨i, hi_⟩ : ∃ i : Nat, (((ushr m (4 : Int32)) &&& (7 : Int32)) % (5 : Int32)).toInt = (i : Int) := ⟨(((ushr m (4 : Int32)) &&& (7 : Int32)) % (5 : Int32)).toInt.toNat, by omega⟩
      obtain ⟨y, hy⟩ := own_getJ [x0, x1, x2, x3, x4] i (by simp; omega)
      refine WP.laload i at_159 A_s (x := y) hi_ hy (pc' := 160) rfl ?_
      refine WP.iload at_160 rfl (pc' := 162) rfl ?_
      refine WP.bipush at_162 (z := (7 : Int32)) rfl (pc' := 164) rfl ?_
      refine WP.iushr at_164 (pc' := 165) rfl ?_
      refine WP.iconst at_165 (z := (3 : Int32)) rfl (pc' := 166) rfl ?_
      refine WP.iand at_166 (pc' := 167) rfl ?_
      refine WP.iconst at_167 (z := (1 : Int32)) rfl (pc' := 168) rfl ?_
      refine WP.isub at_168 (pc' := 169) rfl ?_
      refine WP.i2l at_169 (pc' := 170) rfl ?_
      refine WP.ladd at_170 (pc' := 171) rfl ?_
      refine WP.lstore at_171 (pc' := 173) rfl (ls' := #[.val (.long a), .second, .val (.long t0), .second, .val (.long g), .second, .val (.int m), .val (.ref s), .val (.int (4 : Int32)), .val (.int (0 : Int32)), .val (.long (y + (((ushr m (7 : Int32)) &&& (3 : Int32)) - (1 : Int32)).toInt64)), .second, .unset, .unset, .unset]) rfl ?_
      exact law_173_4_0 hw a t0 g m s x0 x1 x2 x3 x4 A_s g_s hs _
    refine WP.lloadN at_142 rfl (pc' := 143) rfl ?_
    refine WP.lstore at_143 (pc' := 145) rfl (ls' := #[.val (.long a), .second, .val (.long t0), .second, .val (.long g), .second, .val (.int m), .val (.ref s), .val (.int (4 : Int32)), .val (.int (0 : Int32)), .val (.long t0), .second, .unset, .unset, .unset]) rfl ?_
    refine WP.goto at_145 (pc' := 173) (by decide) ?_
    exact law_173_4_0 hw a t0 g m s x0 x1 x2 x3 x4 A_s g_s hs _
  refine WP.iconst at_126 (z := (1 : Int32)) rfl (pc' := 127) rfl ?_
  refine WP.goto at_127 (pc' := 131) (by decide) ?_
  refine WP.istore at_131 (pc' := 133) rfl (ls' := #[.val (.long a), .second, .val (.long t0), .second, .val (.long g), .second, .val (.int m), .val (.ref s), .val (.int (4 : Int32)), .val (.int (1 : Int32)), .unset, .unset, .unset, .unset, .unset]) rfl ?_
  refine WP.iload at_133 rfl (pc' := 135) rfl ?_
  refine WP.iconst at_135 (z := (3 : Int32)) rfl (pc' := 136) rfl ?_
  refine WP.iushr at_136 (pc' := 137) rfl ?_
  refine WP.iconst at_137 (z := (1 : Int32)) rfl (pc' := 138) rfl ?_
  refine WP.iand at_138 (pc' := 139) rfl ?_
  refine WP.ifNe at_139 (tgt := 148) (by decide) (pc' := 142) rfl (fun c139 => ?_) (fun c139 => ?_)
  ·
    refine WP.aload at_148 rfl rfl (pc' := 150) rfl ?_
    refine WP.iload at_150 rfl (pc' := 152) rfl ?_
    refine WP.iconst at_152 (z := (4 : Int32)) rfl (pc' := 153) rfl ?_
    refine WP.iushr at_153 (pc' := 154) rfl ?_
    refine WP.bipush at_154 (z := (7 : Int32)) rfl (pc' := 156) rfl ?_
    refine WP.iand at_156 (pc' := 157) rfl ?_
    refine WP.iconst at_157 (z := (5 : Int32)) rfl (pc' := 158) rfl ?_
    refine WP.irem at_158 (by decide) (pc' := 159) rfl ?_
    have g1 : ((ushr m (4 : Int32)) &&& (7 : Int32)).toInt = (ushr m (4 : Int32)).toInt % 8 := own_mask _ _ 3 _ (by decide) (by decide) (by decide)
    have g2 : (((ushr m (4 : Int32)) &&& (7 : Int32)) % (5 : Int32)).toInt = ((ushr m (4 : Int32)) &&& (7 : Int32)).toInt % 5 := own_irem (by decide) (by omega)
    obtain ⟨i, hi_⟩ : ∃ i : Nat, (((ushr m (4 : Int32)) &&& (7 : Int32)) % (5 : Int32)).toInt = (i : Int) := ⟨(((ushr m (4 : Int32)) &&& (7 : Int32)) % (5 : Int32)).toInt.toNat, by omega⟩
    obtain ⟨y, hy⟩ := own_getJ [x0, x1, x2, x3, x4] i (by simp; omega)
    refine WP.laload i at_159 A_s (x := y) hi_ hy (pc' := 160) rfl ?_
    refine WP.iload at_160 rfl (pc' := 162) rfl ?_
    refine WP.bipush at_162 (z := (7 : Int32)) rfl (pc' := 164) rfl ?_
    refine WP.iushr at_164 (pc' := 165) rfl ?_
    refine WP.iconst at_165 (z := (3 : Int32)) rfl (pc' := 166) rfl ?_
    refine WP.iand at_166 (pc' := 167) rfl ?_
    refine WP.iconst at_167 (z := (1 : Int32)) rfl (pc' := 168) rfl ?_
    refine WP.isub at_168 (pc' := 169) rfl ?_
    refine WP.i2l at_169 (pc' := 170) rfl ?_
    refine WP.ladd at_170 (pc' := 171) rfl ?_
    refine WP.lstore at_171 (pc' := 173) rfl (ls' := #[.val (.long a), .second, .val (.long t0), .second, .val (.long g), .second, .val (.int m), .val (.ref s), .val (.int (4 : Int32)), .val (.int (1 : Int32)), .val (.long (y + (((ushr m (7 : Int32)) &&& (3 : Int32)) - (1 : Int32)).toInt64)), .second, .unset, .unset, .unset]) rfl ?_
    exact law_173_4_1 hw a t0 g m s x0 x1 x2 x3 x4 A_s g_s hs _
  refine WP.lloadN at_142 rfl (pc' := 143) rfl ?_
  refine WP.lstore at_143 (pc' := 145) rfl (ls' := #[.val (.long a), .second, .val (.long t0), .second, .val (.long g), .second, .val (.int m), .val (.ref s), .val (.int (4 : Int32)), .val (.int (1 : Int32)), .val (.long t0), .second, .unset, .unset, .unset]) rfl ?_
  refine WP.goto at_145 (pc' := 173) (by decide) ?_
  exact law_173_4_1 hw a t0 g m s x0 x1 x2 x3 x4 A_s g_s hs _
theorem law_111_5 {l : Launch} {Z : State} {a0 : Array Value} (hw : HW Z a0) {n0 : Nat} {h : Heap} (a t0 g : Int64) (m : Int32) (s : Addr) (x0 x1 x2 x3 x4 : Int64) (A_s : Av Z h s .long [(.long x0), (.long x1), (.long x2), (.long x3), (.long x4)]) (g_s : n0 ≤ s) (hs : x0.toInt < x1.toInt ∧ x1.toInt < x2.toInt ∧ x2.toInt < x3.toInt ∧ x3.toInt < x4.toInt) : WP l B0 Z n0 (fun v h' => v = some (.int 1)) h 1 5 111 #[.val (.long a), .second, .val (.long t0), .second, .val (.long g), .second, .val (.int m), .val (.ref s), .val (.int (5 : Int32)), .unset, .unset, .unset, .unset, .unset, .unset] [] := by
  have k32_0 : (0 : Int32).toInt = 0 := by decide
  have k32_1 : (1 : Int32).toInt = 1 := by decide
  have k32_3 : (3 : Int32).toInt = 3 := by decide
  have k32_4 : (4 : Int32).toInt = 4 := by decide
  have k32_5 : (5 : Int32).toInt = 5 := by decide
  have k32_7 : (7 : Int32).toInt = 7 := by decide
  have k32_9 : (9 : Int32).toInt = 9 := by decide
  refine WP.iload at_111 rfl (pc' := 113) rfl ?_
  refine WP.ifLe at_113 (tgt := 130) (by decide) (pc' := 116) rfl (fun c113 => ?_) (fun c113 => ?_)
  · exfalso; omega
  refine WP.iload at_116 rfl (pc' := 118) rfl ?_
  refine WP.bipush at_118 (z := (9 : Int32)) rfl (pc' := 120) rfl ?_
  refine WP.iushr at_120 (pc' := 121) rfl ?_
  refine WP.iconst at_121 (z := (1 : Int32)) rfl (pc' := 122) rfl ?_
  refine WP.iand at_122 (pc' := 123) rfl ?_
  refine WP.ifEq at_123 (tgt := 130) (by decide) (pc' := 126) rfl (fun c123 => ?_) (fun c123 => ?_)
  ·
    refine WP.iconst at_130 (z := (0 : Int32)) rfl (pc' := 131) rfl ?_
    refine WP.istore at_131 (pc' := 133) rfl (ls' := #[.val (.long a), .second, .val (.long t0), .second, .val (.long g), .second, .val (.int m), .val (.ref s), .val (.int (5 : Int32)), .val (.int (0 : Int32)), .unset, .unset, .unset, .unset, .unset]) rfl ?_
    refine WP.iload at_133 rfl (pc' := 135) rfl ?_
    refine WP.iconst at_135 (z := (3 : Int32)) rfl (pc' := 136) rfl ?_
    refine WP.iushr at_136 (pc' := 137) rfl ?_
    refine WP.iconst at_137 (z := (1 : Int32)) rfl (pc' := 138) rfl ?_
    refine WP.iand at_138 (pc' := 139) rfl ?_
    refine WP.ifNe at_139 (tgt := 148) (by decide) (pc' := 142) rfl (fun c139 => ?_) (fun c139 => ?_)
    ·
      refine WP.aload at_148 rfl rfl (pc' := 150) rfl ?_
      refine WP.iload at_150 rfl (pc' := 152) rfl ?_
      refine WP.iconst at_152 (z := (4 : Int32)) rfl (pc' := 153) rfl ?_
      refine WP.iushr at_153 (pc' := 154) rfl ?_
      refine WP.bipush at_154 (z := (7 : Int32)) rfl (pc' := 156) rfl ?_
      refine WP.iand at_156 (pc' := 157) rfl ?_
      refine WP.iconst at_157 (z := (5 : Int32)) rfl (pc' := 158) rfl ?_
      refine WP.irem at_158 (by decide) (pc' := 159) rfl ?_
      have g1 : ((ushr m (4 : Int32)) &&& (7 : Int32)).toInt = (ushr m (4 : Int32)).toInt % 8 := own_mask _ _ 3 _ (by decide) (by decide) (by decide)
      have g2 : (((ushr m (4 : Int32)) &&& (7 : Int32)) % (5 : Int32)).toInt = ((ushr m (4 : Int32)) &&& (7 : Int32)).toInt % 5 := own_irem (by decide) (by omega)
      obtain ⟨i, hi_⟩ : ∃ i : Nat, (((ushr m (4 : Int32)) &&& (7 : Int32)) % (5 : Int32)).toInt = (i : Int) := ⟨(((ushr m (4 : Int32)) &&& (7 : Int32)) % (5 : Int32)).toInt.toNat, by omega⟩
      obtain ⟨y, hy⟩ := own_getJ [x0, x1, x2, x3, x4] i (by simp; omega)
      refine WP.laload i at_159 A_s (x := y) hi_ hy (pc' := 160) rfl ?_
      refine WP.iload at_160 rfl (pc' := 162) rfl ?_
      refine WP.bipush at_162 (z := (7 : Int32)) rfl (pc' := 164) rfl ?_
      refine WP.iushr at_164 (pc' := 165) rfl ?_
      refine WP.iconst at_165 (z := (3 : Int32)) rfl (pc' := 166) rfl ?_
      refine WP.iand at_166 (pc' := 167) rfl ?_
      refine WP.iconst at_167 (z := (1 : Int32)) rfl (pc' := 168) rfl ?_
      refine WP.isub at_168 (pc' := 169) rfl ?_
      refine WP.i2l at_169 (pc' := 170) rfl ?_
      refine WP.ladd at_170 (pc' := 171) rfl ?_
      refine WP.lstore at_171 (pc' := 173) rfl (ls' := #[.val (.long a), .second, .val (.long t0), .second, .val (.long g), .second, .val (.int m), .val (.ref s), .val (.int (5 : Int32)), .val (.int (0 : Int32)), .val (.long (y + (((ushr m (7 : Int32)) &&& (3 : Int32)) - (1 : Int32)).toInt64)), .second, .unset, .unset, .unset]) rfl ?_
      exact law_173_5_0 hw a t0 g m s x0 x1 x2 x3 x4 A_s g_s hs _
    refine WP.lloadN at_142 rfl (pc' := 143) rfl ?_
    refine WP.lstore at_143 (pc' := 145) rfl (ls' := #[.val (.long a), .second, .val (.long t0), .second, .val (.long g), .second, .val (.int m), .val (.ref s), .val (.int (5 : Int32)), .val (.int (0 : Int32)), .val (.long t0), .second, .unset, .unset, .unset]) rfl ?_
    refine WP.goto at_145 (pc' := 173) (by decide) ?_
    exact law_173_5_0 hw a t0 g m s x0 x1 x2 x3 x4 A_s g_s hs _
  refine WP.iconst at_126 (z := (1 : Int32)) rfl (pc' := 127) rfl ?_
  refine WP.goto at_127 (pc' := 131) (by decide) ?_
  refine WP.istore at_131 (pc' := 133) rfl (ls' := #[.val (.long a), .second, .val (.long t0), .second, .val (.long g), .second, .val (.int m), .val (.ref s), .val (.int (5 : Int32)), .val (.int (1 : Int32)), .unset, .unset, .unset, .unset, .unset]) rfl ?_
  refine WP.iload at_133 rfl (pc' := 135) rfl ?_
  refine WP.iconst at_135 (z := (3 : Int32)) rfl (pc' := 136) rfl ?_
  refine WP.iushr at_136 (pc' := 137) rfl ?_
  refine WP.iconst at_137 (z := (1 : Int32)) rfl (pc' := 138) rfl ?_
  refine WP.iand at_138 (pc' := 139) rfl ?_
  refine WP.ifNe at_139 (tgt := 148) (by decide) (pc' := 142) rfl (fun c139 => ?_) (fun c139 => ?_)
  ·
    refine WP.aload at_148 rfl rfl (pc' := 150) rfl ?_
    refine WP.iload at_150 rfl (pc' := 152) rfl ?_
    refine WP.iconst at_152 (z := (4 : Int32)) rfl (pc' := 153) rfl ?_
    refine WP.iushr at_153 (pc' := 154) rfl ?_
    refine WP.bipush at_154 (z := (7 : Int32)) rfl (pc' := 156) rfl ?_
    refine WP.iand at_156 (pc' := 157) rfl ?_
    refine WP.iconst at_157 (z := (5 : Int32)) rfl (pc' := 158) rfl ?_
    refine WP.irem at_158 (by decide) (pc' := 159) rfl ?_
    have g1 : ((ushr m (4 : Int32)) &&& (7 : Int32)).toInt = (ushr m (4 : Int32)).toInt % 8 := own_mask _ _ 3 _ (by decide) (by decide) (by decide)
    have g2 : (((ushr m (4 : Int32)) &&& (7 : Int32)) % (5 : Int32)).toInt = ((ushr m (4 : Int32)) &&& (7 : Int32)).toInt % 5 := own_irem (by decide) (by omega)
    obtain ⟨i, hi_⟩ : ∃ i : Nat, (((ushr m (4 : Int32)) &&& (7 : Int32)) % (5 : Int32)).toInt = (i : Int) := ⟨(((ushr m (4 : Int32)) &&& (7 : Int32)) % (5 : Int32)).toInt.toNat, by omega⟩
    obtain ⟨y, hy⟩ := own_getJ [x0, x1, x2, x3, x4] i (by simp; omega)
    refine WP.laload i at_159 A_s (x := y) hi_ hy (pc' := 160) rfl ?_
    refine WP.iload at_160 rfl (pc' := 162) rfl ?_
    refine WP.bipush at_162 (z := (7 : Int32)) rfl (pc' := 164) rfl ?_
    refine WP.iushr at_164 (pc' := 165) rfl ?_
    refine WP.iconst at_165 (z := (3 : Int32)) rfl (pc' := 166) rfl ?_
    refine WP.iand at_166 (pc' := 167) rfl ?_
    refine WP.iconst at_167 (z := (1 : Int32)) rfl (pc' := 168) rfl ?_
    refine WP.isub at_168 (pc' := 169) rfl ?_
    refine WP.i2l at_169 (pc' := 170) rfl ?_
    refine WP.ladd at_170 (pc' := 171) rfl ?_
    refine WP.lstore at_171 (pc' := 173) rfl (ls' := #[.val (.long a), .second, .val (.long t0), .second, .val (.long g), .second, .val (.int m), .val (.ref s), .val (.int (5 : Int32)), .val (.int (1 : Int32)), .val (.long (y + (((ushr m (7 : Int32)) &&& (3 : Int32)) - (1 : Int32)).toInt64)), .second, .unset, .unset, .unset]) rfl ?_
    exact law_173_5_1 hw a t0 g m s x0 x1 x2 x3 x4 A_s g_s hs _
  refine WP.lloadN at_142 rfl (pc' := 143) rfl ?_
  refine WP.lstore at_143 (pc' := 145) rfl (ls' := #[.val (.long a), .second, .val (.long t0), .second, .val (.long g), .second, .val (.int m), .val (.ref s), .val (.int (5 : Int32)), .val (.int (1 : Int32)), .val (.long t0), .second, .unset, .unset, .unset]) rfl ?_
  refine WP.goto at_145 (pc' := 173) (by decide) ?_
  exact law_173_5_1 hw a t0 g m s x0 x1 x2 x3 x4 A_s g_s hs _
theorem law_met {l : Launch} {Z : State} {a0 : Array Value} (hw : HW Z a0) {n0 : Nat} {h : Heap} (a t0 g : Int64) (m : Int32) : OMet l x B0 Z n0 #[(.long a), (.long t0), (.long g), (.int m)] h (fun v h' => v = some (.int 1)) := by
  refine OMet.of_wp (ls0 := #[.val (.long a), .second, .val (.long t0), .second, .val (.long g), .second, .val (.int m), .unset, .unset, .unset, .unset, .unset, .unset, .unset, .unset]) pl0 rfl rfl (fun m => own_entry 8 rfl rfl) ?_
  have k32_0 : (0 : Int32).toInt = 0 := by decide
  have k32_1 : (1 : Int32).toInt = 1 := by decide
  have k32_2 : (2 : Int32).toInt = 2 := by decide
  have k32_3 : (3 : Int32).toInt = 3 := by decide
  have k32_4 : (4 : Int32).toInt = 4 := by decide
  have k32_5 : (5 : Int32).toInt = 5 := by decide
  have k32_6 : (6 : Int32).toInt = 6 := by decide
  have k32_7 : (7 : Int32).toInt = 7 := by decide
  have k32_16 : (16 : Int32).toInt = 16 := by decide
  have k32_32 : (32 : Int32).toInt = 32 := by decide
  have k32_48 : (48 : Int32).toInt = 48 := by decide
  have k64_2 : (2 : Int64).toInt = 2 := by decide
  have k64_65535 : (65535 : Int64).toInt = 65535 := by decide
  have k64_9223372036854448127 : (9223372036854448127 : Int64).toInt = 9223372036854448127 := by decide
  refine WP.iconst at_0 (z := (5 : Int32)) rfl (pc' := 1) rfl ?_
  refine WP.newarr at_1 (w0 hw) (k := 5) rfl 5 (by decide) (by decide) (by decide) (by decide) (pc' := 3) rfl ?_
  intro s h1 eb_s g_s K2 A_s
  replace A_s : Av Z h1 s .long [.long 0, .long 0, .long 0, .long 0, .long 0] := A_s
  refine WP.astore at_3 (pc' := 5) rfl rfl (ls' := #[.val (.long a), .second, .val (.long t0), .second, .val (.long g), .second, .val (.int m), .val (.ref s), .unset, .unset, .unset, .unset, .unset, .unset, .unset]) rfl ?_
  refine WP.aload at_5 rfl rfl (pc' := 7) rfl ?_
  refine WP.iconst at_7 (z := (0 : Int32)) rfl (pc' := 8) rfl ?_
  refine WP.lloadN at_8 rfl (pc' := 9) rfl ?_
  refine WP.ldc2J at_9 (w1 hw) (pc' := 12) rfl ?_
  refine WP.callS (y := (⟨"java/lang/Math", "min", "(JJ)J"⟩ : MethodName)) (By := B1) (as := [(.long a), (.long (9223372036854448127 : Int64))]) (rest := [(.int (0 : Int32)), (.ref s)]) at_12 (w2 hw) (w3 hw) (w4 hw) (w5 hw) (by decide) (min_met hw a (9223372036854448127 : Int64)) pd_8 rfl rfl rfl (by decide) (Nat.le_of_ble_eq_true rfl) (by decide) (by decide) (pc' := 15) rfl ?_
  rintro _ _ ⟨rfl, x0, rfl, hx0⟩
  show WP _ _ _ _ _ _ _ _ _ _ [(.long x0), (.int (0 : Int32)), (.ref s)]
  refine WP.lastore 0 at_15 A_s rfl (Nat.le_of_ble_eq_true rfl) g_s (pc' := 16) rfl ?_
  intro h4 K5 A_n
  replace A_s : Av Z h4 s .long [(.long x0), (.long 0), (.long 0), (.long 0), (.long 0)] := A_n
  clear A_n
  have hx0' : x0.toInt ≤ 9223372036854448127 := by omega
  have rx0 := own_r64 x0
  refine WP.aload at_16 rfl rfl (pc' := 18) rfl ?_
  refine WP.iconst at_18 (z := (1 : Int32)) rfl (pc' := 19) rfl ?_
  refine WP.aload at_19 rfl rfl (pc' := 21) rfl ?_
  refine WP.iconst at_21 (z := (0 : Int32)) rfl (pc' := 22) rfl ?_
  refine WP.laload 0 at_22 A_s (x := x0) rfl rfl (pc' := 23) rfl ?_
  refine WP.ldc2J at_23 (w6 hw) (pc' := 26) rfl ?_
  refine WP.ladd at_26 (pc' := 27) rfl ?_
  refine WP.lload at_27 rfl (pc' := 29) rfl ?_
  refine WP.ldc2J at_29 (w7 hw) (pc' := 32) rfl ?_
  refine WP.land at_32 (pc' := 33) rfl ?_
  refine WP.ladd at_33 (pc' := 34) rfl ?_
  have m1 : (g &&& (65535 : Int64)).toInt = (g).toInt % 65536 := own_maskL _ _ 16 _ (by decide) (by decide) (by decide)
  have a1 : (x0 + (2 : Int64)).toInt = x0.toInt + 2 := by rw [own_ladd] <;> omega
  obtain ⟨x1, e_x1⟩ : ∃ z, z = ((x0 + (2 : Int64)) + (g &&& (65535 : Int64))) := ⟨_, rfl⟩
  have b1 : x1.toInt = x0.toInt + 2 + (g &&& (65535 : Int64)).toInt := by rw [e_x1, own_ladd] <;> omega
  have d1 : x0.toInt < x1.toInt ∧ x1.toInt ≤ x0.toInt + 65537 := by omega
  clear m1 a1 b1
  rw [← e_x1]
  refine WP.lastore 1 at_34 A_s rfl (Nat.le_of_ble_eq_true rfl) g_s (pc' := 35) rfl ?_
  intro h6 K7 A_n
  replace A_s : Av Z h6 s .long [(.long x0), (.long x1), (.long 0), (.long 0), (.long 0)] := A_n
  clear A_n
  refine WP.aload at_35 rfl rfl (pc' := 37) rfl ?_
  refine WP.iconst at_37 (z := (2 : Int32)) rfl (pc' := 38) rfl ?_
  refine WP.aload at_38 rfl rfl (pc' := 40) rfl ?_
  refine WP.iconst at_40 (z := (1 : Int32)) rfl (pc' := 41) rfl ?_
  refine WP.laload 1 at_41 A_s (x := x1) rfl rfl (pc' := 42) rfl ?_
  refine WP.ldc2J at_42 (w6 hw) (pc' := 45) rfl ?_
  refine WP.ladd at_45 (pc' := 46) rfl ?_
  refine WP.lload at_46 rfl (pc' := 48) rfl ?_
  refine WP.bipush at_48 (z := (16 : Int32)) rfl (pc' := 50) rfl ?_
  refine WP.lushr at_50 (pc' := 51) rfl ?_
  refine WP.ldc2J at_51 (w7 hw) (pc' := 54) rfl ?_
  refine WP.land at_54 (pc' := 55) rfl ?_
  refine WP.ladd at_55 (pc' := 56) rfl ?_
  have m2 : ((ushrL g (16 : Int32)) &&& (65535 : Int64)).toInt = ((ushrL g (16 : Int32))).toInt % 65536 := own_maskL _ _ 16 _ (by decide) (by decide) (by decide)
  have a2 : (x1 + (2 : Int64)).toInt = x1.toInt + 2 := by rw [own_ladd] <;> omega
  obtain ⟨x2, e_x2⟩ : ∃ z, z = ((x1 + (2 : Int64)) + ((ushrL g (16 : Int32)) &&& (65535 : Int64))) := ⟨_, rfl⟩
  have b2 : x2.toInt = x1.toInt + 2 + ((ushrL g (16 : Int32)) &&& (65535 : Int64)).toInt := by rw [e_x2, own_ladd] <;> omega
  have d2 : x1.toInt < x2.toInt ∧ x2.toInt ≤ x1.toInt + 65537 := by omega
  clear m2 a2 b2
  rw [← e_x2]
  refine WP.lastore 2 at_56 A_s rfl (Nat.le_of_ble_eq_true rfl) g_s (pc' := 57) rfl ?_
  intro h8 K9 A_n
  replace A_s : Av Z h8 s .long [(.long x0), (.long x1), (.long x2), (.long 0), (.long 0)] := A_n
  clear A_n
  refine WP.aload at_57 rfl rfl (pc' := 59) rfl ?_
  refine WP.iconst at_59 (z := (3 : Int32)) rfl (pc' := 60) rfl ?_
  refine WP.aload at_60 rfl rfl (pc' := 62) rfl ?_
  refine WP.iconst at_62 (z := (2 : Int32)) rfl (pc' := 63) rfl ?_
  refine WP.laload 2 at_63 A_s (x := x2) rfl rfl (pc' := 64) rfl ?_
  refine WP.ldc2J at_64 (w6 hw) (pc' := 67) rfl ?_
  refine WP.ladd at_67 (pc' := 68) rfl ?_
  refine WP.lload at_68 rfl (pc' := 70) rfl ?_
  refine WP.bipush at_70 (z := (32 : Int32)) rfl (pc' := 72) rfl ?_
  refine WP.lushr at_72 (pc' := 73) rfl ?_
  refine WP.ldc2J at_73 (w7 hw) (pc' := 76) rfl ?_
  refine WP.land at_76 (pc' := 77) rfl ?_
  refine WP.ladd at_77 (pc' := 78) rfl ?_
  have m3 : ((ushrL g (32 : Int32)) &&& (65535 : Int64)).toInt = ((ushrL g (32 : Int32))).toInt % 65536 := own_maskL _ _ 16 _ (by decide) (by decide) (by decide)
  have a3 : (x2 + (2 : Int64)).toInt = x2.toInt + 2 := by rw [own_ladd] <;> omega
  obtain ⟨x3, e_x3⟩ : ∃ z, z = ((x2 + (2 : Int64)) + ((ushrL g (32 : Int32)) &&& (65535 : Int64))) := ⟨_, rfl⟩
  have b3 : x3.toInt = x2.toInt + 2 + ((ushrL g (32 : Int32)) &&& (65535 : Int64)).toInt := by rw [e_x3, own_ladd] <;> omega
  have d3 : x2.toInt < x3.toInt ∧ x3.toInt ≤ x2.toInt + 65537 := by omega
  clear m3 a3 b3
  rw [← e_x3]
  refine WP.lastore 3 at_78 A_s rfl (Nat.le_of_ble_eq_true rfl) g_s (pc' := 79) rfl ?_
  intro h10 K11 A_n
  replace A_s : Av Z h10 s .long [(.long x0), (.long x1), (.long x2), (.long x3), (.long 0)] := A_n
  clear A_n
  refine WP.aload at_79 rfl rfl (pc' := 81) rfl ?_
  refine WP.iconst at_81 (z := (4 : Int32)) rfl (pc' := 82) rfl ?_
  refine WP.aload at_82 rfl rfl (pc' := 84) rfl ?_
  refine WP.iconst at_84 (z := (3 : Int32)) rfl (pc' := 85) rfl ?_
  refine WP.laload 3 at_85 A_s (x := x3) rfl rfl (pc' := 86) rfl ?_
  refine WP.ldc2J at_86 (w6 hw) (pc' := 89) rfl ?_
  refine WP.ladd at_89 (pc' := 90) rfl ?_
  refine WP.lload at_90 rfl (pc' := 92) rfl ?_
  refine WP.bipush at_92 (z := (48 : Int32)) rfl (pc' := 94) rfl ?_
  refine WP.lushr at_94 (pc' := 95) rfl ?_
  refine WP.ldc2J at_95 (w7 hw) (pc' := 98) rfl ?_
  refine WP.land at_98 (pc' := 99) rfl ?_
  refine WP.ladd at_99 (pc' := 100) rfl ?_
  have m4 : ((ushrL g (48 : Int32)) &&& (65535 : Int64)).toInt = ((ushrL g (48 : Int32))).toInt % 65536 := own_maskL _ _ 16 _ (by decide) (by decide) (by decide)
  have a4 : (x3 + (2 : Int64)).toInt = x3.toInt + 2 := by rw [own_ladd] <;> omega
  obtain ⟨x4, e_x4⟩ : ∃ z, z = ((x3 + (2 : Int64)) + ((ushrL g (48 : Int32)) &&& (65535 : Int64))) := ⟨_, rfl⟩
  have b4 : x4.toInt = x3.toInt + 2 + ((ushrL g (48 : Int32)) &&& (65535 : Int64)).toInt := by rw [e_x4, own_ladd] <;> omega
  have d4 : x3.toInt < x4.toInt ∧ x4.toInt ≤ x3.toInt + 65537 := by omega
  clear m4 a4 b4
  rw [← e_x4]
  refine WP.lastore 4 at_100 A_s rfl (Nat.le_of_ble_eq_true rfl) g_s (pc' := 101) rfl ?_
  intro h12 K13 A_n
  replace A_s : Av Z h12 s .long [(.long x0), (.long x1), (.long x2), (.long x3), (.long x4)] := A_n
  clear A_n
  refine WP.iload at_101 rfl (pc' := 103) rfl ?_
  refine WP.bipush at_103 (z := (7 : Int32)) rfl (pc' := 105) rfl ?_
  refine WP.iand at_105 (pc' := 106) rfl ?_
  refine WP.bipush at_106 (z := (6 : Int32)) rfl (pc' := 108) rfl ?_
  refine WP.irem at_108 (by decide) (pc' := 109) rfl ?_
  obtain ⟨kk, e_kk⟩ : ∃ z, z = ((m &&& (7 : Int32)) % (6 : Int32)) := ⟨_, rfl⟩
  rw [← e_kk]
  refine WP.istore at_109 (pc' := 111) rfl (ls' := #[.val (.long a), .second, .val (.long t0), .second, .val (.long g), .second, .val (.int m), .val (.ref s), .val (.int kk), .unset, .unset, .unset, .unset, .unset, .unset]) rfl ?_
  have f1 : (m &&& (7 : Int32)).toInt = m.toInt % 8 := own_mask m _ 3 _ (by decide) (by decide) (by decide)
  have f2 : kk.toInt = (m &&& (7 : Int32)).toInt % 6 := by rw [e_kk]; exact own_irem (by decide) (by omega)
  have hss : x0.toInt < x1.toInt ∧ x1.toInt < x2.toInt ∧ x2.toInt < x3.toInt ∧ x3.toInt < x4.toInt := ⟨d1.1, d2.1, d3.1, d4.1⟩
  rcases (by omega : kk.toInt = 0 ∨ kk.toInt = 1 ∨ kk.toInt = 2 ∨ kk.toInt = 3 ∨ kk.toInt = 4 ∨ kk.toInt = 5) with hk | hk | hk | hk | hk | hk
  · rw [show kk = (0 : Int32) from own_e32 (by rw [hk]; decide)]; exact law_111_0 hw a t0 g m s x0 x1 x2 x3 x4 A_s g_s hss
  · rw [show kk = (1 : Int32) from own_e32 (by rw [hk]; decide)]; exact law_111_1 hw a t0 g m s x0 x1 x2 x3 x4 A_s g_s hss
  · rw [show kk = (2 : Int32) from own_e32 (by rw [hk]; decide)]; exact law_111_2 hw a t0 g m s x0 x1 x2 x3 x4 A_s g_s hss
  · rw [show kk = (3 : Int32) from own_e32 (by rw [hk]; decide)]; exact law_111_3 hw a t0 g m s x0 x1 x2 x3 x4 A_s g_s hss
  · rw [show kk = (4 : Int32) from own_e32 (by rw [hk]; decide)]; exact law_111_4 hw a t0 g m s x0 x1 x2 x3 x4 A_s g_s hss
  · rw [show kk = (5 : Int32) from own_e32 (by rw [hk]; decide)]; exact law_111_5 hw a t0 g m s x0 x1 x2 x3 x4 A_s g_s hss
theorem comes_1 {Post : Tables → Env → Array Value → State → Outcome → State → Prop} (hpost : ∀ tb e args s v u, (limb_1_1.after args s (.returned v) u = true ∧ limb_1_2.after args s (.returned v) u = true ∧ True) → FrameEnd s (.returned v) u (Jvm.fieldLocs frame_1_writes args s ++ Jvm.arrayLocs frame_1_arrays args s ++ Jvm.staticLocs frame_1_statics s) 24 192 → Post tb e args s (.returned v) u) :
    ArmFor flags0 classFile x code maxLocals ret World_1 tables_1 room_1 Calls_1 rest_1 Pre_1 Post := by
  intro l hfl _ _ p e ha hc hk s m args below hf hA hF happ hP
  obtain ⟨hcalls, hrest, hpre⟩ := hP
  obtain ⟨-, -, -, hnamed, -, -, -, hat⟩ := (Spec.applies_iff hf).mp happ
  obtain ⟨hg, hn⟩ := and_e (Cond.before_iff.mp (show (Jvm.Cond.and given_1 narrow_1).before args s = true from hpre))
  obtain ⟨q0, g0⟩ := and_e hg
  obtain ⟨a0, a1, a2, a3, rfl⟩ : ∃ (a0 : Value) (a1 : Value) (a2 : Value) (a3 : Value), args = #[a0, a1, a2, a3] := by
    have hs : args.size = 4 := by simpa [Cond.value, given_1] using q0
    obtain ⟨L⟩ := args
    match L, hs with
    | [a0, a1, a2, a3], _ => exact ⟨a0, a1, a2, a3, rfl⟩
  have hw : HW s #[a0, a1, a2, a3] := fun d (hd : d ∈ tables_1) => atoms_spec (ws := Jvm.Cond.code x code maxLocals ret :: tables_1) hat d (List.mem_cons_of_mem _ hd)
  obtain ⟨p0, g1⟩ := and_e g0
  obtain ⟨i0, z0⟩ := isL_v p0
  obtain rfl : a0 = (.long i0) := Option.some.inj z0
  obtain ⟨p1, g2⟩ := and_e g1
  obtain ⟨i1, z1⟩ := isL_v p1
  obtain rfl : a1 = (.long i1) := Option.some.inj z1
  obtain ⟨p2, g3⟩ := and_e g2
  obtain ⟨i2, z2⟩ := isL_v p2
  obtain rfl : a2 = (.long i2) := Option.some.inj z2
  obtain ⟨i3, z3⟩ := is_v g3
  obtain rfl : a3 = (.int i3) := Option.some.inj z3
  obtain ⟨n, o, h1, h2, h3, _, L, rfl, ⟨rfl, N, -⟩, hq⟩ := law_met hw i0 i1 i2 i3 (Nat.le_refl _) tables_1 p e ha hc hk s m _ below hf ((Spec.applies_iff_loose hf).mp happ).1 ⟨rfl, State.Warmed39.refl s, rfl⟩ trivial
  refine ⟨n, _, h1, h2, h3, hpost _ _ _ _ _ _ ⟨Cond.after_iff.mpr rfl, Cond.after_iff.mpr (eq_i res_at (Term.int_eval (1)) rfl), trivial⟩ ⟨hq.1, hq.2.1, (hq.2.2.sift fun y hy => Or.inr (N y hy)).mono (by decide) (by decide)⟩⟩
theorem main_1_1 : Claimed_1_1 := comes_1 fun _ _ _ _ _ _ h hF => ⟨h.1, hF⟩
theorem main_1_2 : Claimed_1_2 := comes_1 fun _ _ _ _ _ _ h hF => ⟨h.2.1, hF⟩
end Jvm.Pilot.@@N@@
namespace Jvm.Pilot.@@N@@
open Jvm Jvm.ClassFile Sem Op Lib Jvm.Free Jvm.Stand Jvm.Pilot.@@N@@.Jvm.D
/-! MADE BY PROGRAM (witnessworld.py) out of the Statement's table words and the real class files: 13 classes; the members and pool entries that the words name. The judged class is class 1, her method 1. -/
namespace start1
open Jvm.ClassFile
def u (s : String) : CpInfo := .utf8 (stringToUtf16 s)
/-- a pool by its gaps: so many unusable entries, then the entry; so many at the end -/
def gap : Nat → List CpInfo → List CpInfo
  | 0, r => r
  | n + 1, r => .unusable :: gap n r
def poolList (es : List (Nat × CpInfo)) (last : Nat) : List CpInfo := es.foldr (fun e r => gap e.1 (e.2 :: r)) (gap last [])
def pool (es : List (Nat × CpInfo)) (last : Nat) : Array CpInfo := ⟨poolList es last⟩
def fileOf (pool : Array CpInfo) (this : Nat) (attrs : Array Attribute := #[]) (ms : Array MethodInfo := #[]) (fl : Nat := 33) (sup : Nat := 0) (ifs : Array Nat := #[]) (fds : Array FieldInfo := #[]) : ClassFile where
  minorVersion := 0
  majorVersion := 65
  constantPool := pool
  accessFlags := fl
  thisClass := this
  superClass := sup
  interfaces := ifs
  fields := fds
  methods := ms
  attributes := attrs
def plain (name : String) (sup : Option ClassId) : Class where
  name := name
  kind := .ordinary
  loader := none
  accessFlags := 33
  super := sup
  interfaces := #[]
  cf := none
  fields := #[]
  methods := #[]
  instanceTypes := #[]
  staticTypes := #[]
  resolved := #[]
  callSites := []
  init := .initialized
  statics := none
  mirror := none

def pool0 : Array CpInfo := pool [(5, u "<init>"), (0, u "()V"), (1, .class_ 10), (1, u "java/lang/Object")] 113

def k0c0 : Code := { maxStack := 0, maxLocals := 1, code := object_method_1_code, exceptionTable := #[], attributes := #[] }
def k0m0 : Method := { name := "<init>", desc := "()V", sig := { parameters := [], returnType := none }, accessFlags := 1, code := some k0c0 }
/-- java/lang/Object -/
def k0 : Class := { plain "java/lang/Object" none with
  accessFlags := 33
  interfaces := #[]
  cf := some (fileOf pool0 8 #[] #[{ accessFlags := 1, nameIndex := 5, descriptorIndex := 6, attributes := #[] }] 33 0 #[] #[])
  fields := #[]
  methods := #[k0m0]
  instanceTypes := #[]
  staticTypes := #[]
  resolved := Array.replicate 124 none
  statics := none }

def pool1 : Array CpInfo := pool [(2, .class_ 4), (1, u "java/lang/Object"), (0, u "<init>"), (0, u "()V"), (2, .long 9223372036854448127), (1, .methodref 12 13), (0, .class_ 14), (0, .nameAndType 15 16), (0, u "java/lang/Math"), (0, u "min"), (0, u "(JJ)J"), (0, .long 2), (1, .long 65535), (1, .class_ 22), (0, u "com/example/apportion/apportion/IdleGaps"), (0, .methodref 21 24), (0, .nameAndType 5 25), (0, u "(J)V"), (0, .methodref 21 27), (0, .nameAndType 28 6), (0, u "clear"), (0, .methodref 30 31), (0, .class_ 32), (0, .nameAndType 33 34), (0, u "com/example/apportion/apportion/IdleGapsFloorPinLaw"), (0, u "endOf"), (0, u "([JII)J"), (0, .methodref 21 36), (0, .nameAndType 37 38), (0, u "append"), (0, u "(JJ)V"), (0, .methodref 21 40), (0, .nameAndType 41 6), (0, u "dropFirst"), (0, .methodref 30 43), (0, .nameAndType 44 45), (0, u "in"), (0, u "([JIIIJ)I"), (0, .methodref 21 47), (0, .nameAndType 48 49), (0, u "floor"), (0, u "(J)I"), (0, .long 9223372036854775807), (3, u "law"), (0, u "(JJJI)Z")] 5

def k1m0 : Method := { name := "<init>", desc := "()V", sig := { parameters := [], returnType := none }, accessFlags := 1, code := none }
def k1c1 : Code := { maxStack := 8, maxLocals := 15, code := code, exceptionTable := #[], attributes := #[] }
def k1m1 : Method := { name := "law", desc := "(JJJI)Z", sig := { parameters := [.long, .long, .long, .int], returnType := some .boolean }, accessFlags := 9, code := some k1c1 }
def k1c2 : Code := { maxStack := 4, maxLocals := 3, code := method_3_code, exceptionTable := #[], attributes := #[] }
def k1m2 : Method := { name := "endOf", desc := "([JII)J", sig := { parameters := [(.array .long), .int, .int], returnType := some .long }, accessFlags := 10, code := some k1c2 }
def k1c3 : Code := { maxStack := 4, maxLocals := 6, code := method_4_code, exceptionTable := #[], attributes := #[] }
def k1m3 : Method := { name := "in", desc := "([JIIIJ)I", sig := { parameters := [(.array .long), .int, .int, .int, .long], returnType := some .int }, accessFlags := 10, code := some k1c3 }
/-- com/example/apportion/apportion/IdleGapsFloorPinLaw -/
def k1 : Class := { plain "com/example/apportion/apportion/IdleGapsFloorPinLaw" (some 0) with
  accessFlags := 49
  interfaces := #[]
  cf := some (fileOf pool1 30 #[] #[{ accessFlags := 1, nameIndex := 5, descriptorIndex := 6, attributes := #[] }, { accessFlags := 9, nameIndex := 54, descriptorIndex := 55, attributes := #[] }, { accessFlags := 10, nameIndex := 33, descriptorIndex := 34, attributes := #[] }, { accessFlags := 10, nameIndex := 44, descriptorIndex := 45, attributes := #[] }] 49 2 #[] #[])
  fields := #[]
  methods := #[k1m0, k1m1, k1m2, k1m3]
  instanceTypes := #[]
  staticTypes := #[]
  resolved := Array.replicate 61 none
  statics := none }

def pool2 : Array CpInfo := pool [(1, .class_ 2), (0, u "java/lang/Math"), (1, .class_ 6), (1, u "java/lang/Object"), (0, u "<init>"), (0, u "()V"), (89, .class_ 100), (1, u "java/lang/Math$RandomNumberGeneratorHolder"), (20, u "(JJ)J"), (50, u "negativeZeroFloatBits"), (0, u "J"), (2, u "negativeZeroDoubleBits"), (21, u "max"), (2, u "min"), (43, u "$assertionsDisabled"), (0, u "Z"), (88, u "(II)I"), (2, u "twoToTheDoubleScaleDown"), (0, u "D"), (4, u "twoToTheDoubleScaleUp"), (9, u "E"), (3, u "PI"), (2, u "TAU"), (2, u "DEGREES_TO_RADIANS"), (0, u "RADIANS_TO_DEGREES")] 94

def k2m0 : Method := { name := "<init>", desc := "()V", sig := { parameters := [], returnType := none }, accessFlags := 2, code := none }
def k2c1 : Code := { maxStack := 2, maxLocals := 2, code := jdk_29_method_65_code, exceptionTable := #[], attributes := #[] }
def k2m1 : Method := { name := "max", desc := "(II)I", sig := { parameters := [.int, .int], returnType := some .int }, accessFlags := 9, code := some k2c1 }
def k2c2 : Code := { maxStack := 4, maxLocals := 4, code := jdk_29_method_70_code, exceptionTable := #[], attributes := #[] }
def k2m2 : Method := { name := "min", desc := "(JJ)J", sig := { parameters := [.long, .long], returnType := some .long }, accessFlags := 9, code := some k2c2 }
/-- java/lang/Math -/
def k2 : Class := { plain "java/lang/Math" (some 0) with
  accessFlags := 49
  interfaces := #[]
  cf := some (fileOf pool2 1 #[.nestMembers #[98]] #[{ accessFlags := 2, nameIndex := 7, descriptorIndex := 8, attributes := #[] }, { accessFlags := 9, nameIndex := 198, descriptorIndex := 335, attributes := #[] }, { accessFlags := 9, nameIndex := 201, descriptorIndex := 121, attributes := #[] }] 49 4 #[] #[{ accessFlags := 25, nameIndex := 354, descriptorIndex := 339, attributes := #[] }, { accessFlags := 25, nameIndex := 358, descriptorIndex := 339, attributes := #[] }, { accessFlags := 25, nameIndex := 361, descriptorIndex := 339, attributes := #[] }, { accessFlags := 26, nameIndex := 364, descriptorIndex := 339, attributes := #[] }, { accessFlags := 26, nameIndex := 365, descriptorIndex := 339, attributes := #[] }, { accessFlags := 26, nameIndex := 172, descriptorIndex := 173, attributes := #[] }, { accessFlags := 26, nameIndex := 176, descriptorIndex := 173, attributes := #[] }, { accessFlags := 8, nameIndex := 344, descriptorIndex := 339, attributes := #[] }, { accessFlags := 8, nameIndex := 338, descriptorIndex := 339, attributes := #[] }, { accessFlags := 4120, nameIndex := 245, descriptorIndex := 246, attributes := #[] }])
  fields := #[{ name := "E", type := .double, accessFlags := 25, slot := 0, constantValue := 0 }, { name := "PI", type := .double, accessFlags := 25, slot := 1, constantValue := 0 }, { name := "TAU", type := .double, accessFlags := 25, slot := 2, constantValue := 0 }, { name := "DEGREES_TO_RADIANS", type := .double, accessFlags := 26, slot := 3, constantValue := 0 }, { name := "RADIANS_TO_DEGREES", type := .double, accessFlags := 26, slot := 4, constantValue := 0 }, { name := "negativeZeroFloatBits", type := .long, accessFlags := 26, slot := 5, constantValue := 0 }, { name := "negativeZeroDoubleBits", type := .long, accessFlags := 26, slot := 6, constantValue := 0 }, { name := "twoToTheDoubleScaleUp", type := .double, accessFlags := 8, slot := 7, constantValue := 0 }, { name := "twoToTheDoubleScaleDown", type := .double, accessFlags := 8, slot := 8, constantValue := 0 }, { name := "$assertionsDisabled", type := .boolean, accessFlags := 4120, slot := 9, constantValue := 0 }]
  methods := #[k2m0, k2m1, k2m2]
  instanceTypes := #[]
  staticTypes := #[.double, .double, .double, .double, .double, .long, .long, .double, .double, .boolean]
  resolved := Array.replicate 460 none
  statics := none }

def pool3 : Array CpInfo := pool [(1, .methodref 2 3), (0, .class_ 4), (0, .nameAndType 5 6), (0, u "java/lang/Object"), (0, u "<init>"), (0, u "()V"), (0, .fieldref 8 9), (0, .class_ 10), (0, .nameAndType 11 12), (0, u "com/example/apportion/apportion/IdleGaps"), (0, u "starts"), (0, u "[J"), (0, .fieldref 8 14), (0, .nameAndType 15 12), (0, u "ends"), (0, .fieldref 8 17), (0, .nameAndType 18 19), (0, u "first"), (0, u "I"), (0, .fieldref 8 21), (0, .nameAndType 22 19), (0, u "last"), (2, .long 9223372036854775807), (3, u "floor"), (0, u "(J)I"), (4, .methodref 8 36), (0, .nameAndType 37 6), (0, u "spread"), (8, .methodref 47 48), (0, .class_ 49), (0, .nameAndType 50 51), (0, u "java/lang/System"), (0, u "arraycopy"), (0, u "(Ljava/lang/Object;ILjava/lang/Object;II)V"), (0, .methodref 8 53), (0, .nameAndType 54 55), (0, u "size"), (0, u "()I"), (0, .methodref 57 58), (0, .class_ 59), (0, .nameAndType 60 61), (0, u "java/lang/Math"), (0, u "max"), (0, u "(II)I"), (0, u "(J)V"), (5, u "dropFirst"), (0, u "clear"), (0, u "append"), (0, u "(JJ)V")] 5

def k3c0 : Code := { maxStack := 4, maxLocals := 3, code := prog_97_method_1_code, exceptionTable := #[], attributes := #[] }
def k3m0 : Method := { name := "<init>", desc := "(J)V", sig := { parameters := [.long], returnType := none }, accessFlags := 0, code := some k3c0 }
def k3c1 : Code := { maxStack := 2, maxLocals := 1, code := prog_97_method_2_code, exceptionTable := #[], attributes := #[] }
def k3m1 : Method := { name := "size", desc := "()I", sig := { parameters := [], returnType := some .int }, accessFlags := 0, code := some k3c1 }
def k3c2 : Code := { maxStack := 4, maxLocals := 6, code := prog_97_method_5_code, exceptionTable := #[], attributes := #[] }
def k3m2 : Method := { name := "floor", desc := "(J)I", sig := { parameters := [.long], returnType := some .int }, accessFlags := 0, code := some k3c2 }
def k3c3 : Code := { maxStack := 3, maxLocals := 1, code := prog_97_method_7_code, exceptionTable := #[], attributes := #[] }
def k3m3 : Method := { name := "dropFirst", desc := "()V", sig := { parameters := [], returnType := none }, accessFlags := 0, code := some k3c3 }
def k3c4 : Code := { maxStack := 2, maxLocals := 1, code := prog_97_method_8_code, exceptionTable := #[], attributes := #[] }
def k3m4 : Method := { name := "clear", desc := "()V", sig := { parameters := [], returnType := none }, accessFlags := 0, code := some k3c4 }
def k3c5 : Code := { maxStack := 5, maxLocals := 5, code := prog_97_method_9_code, exceptionTable := #[], attributes := #[] }
def k3m5 : Method := { name := "append", desc := "(JJ)V", sig := { parameters := [.long, .long], returnType := none }, accessFlags := 0, code := some k3c5 }
def k3c6 : Code := { maxStack := 5, maxLocals := 4, code := prog_97_method_14_code, exceptionTable := #[], attributes := #[] }
def k3m6 : Method := { name := "spread", desc := "()V", sig := { parameters := [], returnType := none }, accessFlags := 2, code := some k3c6 }
/-- com/example/apportion/apportion/IdleGaps -/
def k3 : Class := { plain "com/example/apportion/apportion/IdleGaps" (some 0) with
  accessFlags := 48
  interfaces := #[]
  cf := some (fileOf pool3 8 #[] #[{ accessFlags := 0, nameIndex := 5, descriptorIndex := 62, attributes := #[] }, { accessFlags := 0, nameIndex := 54, descriptorIndex := 55, attributes := #[] }, { accessFlags := 0, nameIndex := 29, descriptorIndex := 30, attributes := #[] }, { accessFlags := 0, nameIndex := 68, descriptorIndex := 6, attributes := #[] }, { accessFlags := 0, nameIndex := 69, descriptorIndex := 6, attributes := #[] }, { accessFlags := 0, nameIndex := 70, descriptorIndex := 71, attributes := #[] }, { accessFlags := 2, nameIndex := 37, descriptorIndex := 6, attributes := #[] }] 48 2 #[] #[{ accessFlags := 2, nameIndex := 11, descriptorIndex := 12, attributes := #[] }, { accessFlags := 2, nameIndex := 15, descriptorIndex := 12, attributes := #[] }, { accessFlags := 2, nameIndex := 18, descriptorIndex := 19, attributes := #[] }, { accessFlags := 2, nameIndex := 22, descriptorIndex := 19, attributes := #[] }])
  fields := #[{ name := "starts", type := (.array .long), accessFlags := 2, slot := 0, constantValue := 0 }, { name := "ends", type := (.array .long), accessFlags := 2, slot := 1, constantValue := 0 }, { name := "first", type := .int, accessFlags := 2, slot := 2, constantValue := 0 }, { name := "last", type := .int, accessFlags := 2, slot := 3, constantValue := 0 }]
  methods := #[k3m0, k3m1, k3m2, k3m3, k3m4, k3m5, k3m6]
  instanceTypes := #[(.array .long), (.array .long), .int, .int]
  staticTypes := #[]
  resolved := Array.replicate 77 none
  statics := none }

def pool4 : Array CpInfo := pool [(2, .class_ 4), (1, u "java/lang/Object"), (0, u "<init>"), (0, u "()V"), (1, .class_ 10), (1, u "java/lang/System"), (0, u "allowSecurityManager"), (0, u "I"), (16, u "cons"), (0, u "Ljava/io/Console;"), (77, .class_ 110), (1, u "java/lang/System$CallersHolder"), (43, u "initialErrStream"), (0, u "Ljava/io/PrintStream;"), (19, u "security"), (0, u "Ljava/lang/SecurityManager;"), (31, .class_ 209), (0, u "java/lang/System$1"), (7, u "props"), (0, u "Ljava/util/Properties;"), (2, u "lineSeparator"), (0, u "Ljava/lang/String;"), (96, .class_ 321), (1, u "java/lang/System$LoggerFinder"), (5, .class_ 328), (0, u "java/lang/System$Logger"), (67, u "err"), (2, u "out"), (91, u "notSupportedJnuEncoding"), (15, u "in"), (17, u "initialIn"), (0, u "Ljava/io/InputStream;"), (35, u "bootLayer"), (0, u "Ljava/lang/ModuleLayer;"), (99, .class_ 664), (0, u "java/lang/System$2"), (9, u "NEVER"), (2, u "MAYBE"), (49, u "arraycopy"), (0, u "(Ljava/lang/Object;ILjava/lang/Object;II)V"), (72, .class_ 802), (0, u "java/lang/System$Logger$Level")] 31

def k4m0 : Method := { name := "<init>", desc := "()V", sig := { parameters := [], returnType := none }, accessFlags := 2, code := none }
def k4m1 : Method := { name := "arraycopy", desc := "(Ljava/lang/Object;ILjava/lang/Object;II)V", sig := { parameters := [(.object "java/lang/Object"), .int, (.object "java/lang/Object"), .int, .int], returnType := none }, accessFlags := 265, code := none }
/-- java/lang/System -/
def k4 : Class := { plain "java/lang/System" (some 0) with
  accessFlags := 49
  interfaces := #[]
  cf := some (fileOf pool4 8 #[.nestMembers #[319, 327, 801, 108, 663, 208]] #[{ accessFlags := 2, nameIndex := 5, descriptorIndex := 6, attributes := #[] }, { accessFlags := 265, nameIndex := 727, descriptorIndex := 728, attributes := #[] }] 49 2 #[] #[{ accessFlags := 25, nameIndex := 507, descriptorIndex := 526, attributes := #[] }, { accessFlags := 25, nameIndex := 399, descriptorIndex := 155, attributes := #[] }, { accessFlags := 25, nameIndex := 396, descriptorIndex := 155, attributes := #[] }, { accessFlags := 10, nameIndex := 525, descriptorIndex := 526, attributes := #[] }, { accessFlags := 26, nameIndex := 674, descriptorIndex := 12, attributes := #[] }, { accessFlags := 26, nameIndex := 677, descriptorIndex := 12, attributes := #[] }, { accessFlags := 10, nameIndex := 11, descriptorIndex := 12, attributes := #[] }, { accessFlags := 74, nameIndex := 175, descriptorIndex := 176, attributes := #[] }, { accessFlags := 10, nameIndex := 491, descriptorIndex := 222, attributes := #[] }, { accessFlags := 74, nameIndex := 29, descriptorIndex := 30, attributes := #[] }, { accessFlags := 74, nameIndex := 154, descriptorIndex := 155, attributes := #[] }, { accessFlags := 10, nameIndex := 217, descriptorIndex := 218, attributes := #[] }, { accessFlags := 10, nameIndex := 221, descriptorIndex := 222, attributes := #[] }, { accessFlags := 8, nameIndex := 562, descriptorIndex := 563, attributes := #[] }])
  fields := #[{ name := "in", type := (.object "java/io/InputStream"), accessFlags := 25, slot := 0, constantValue := 0 }, { name := "out", type := (.object "java/io/PrintStream"), accessFlags := 25, slot := 1, constantValue := 0 }, { name := "err", type := (.object "java/io/PrintStream"), accessFlags := 25, slot := 2, constantValue := 0 }, { name := "initialIn", type := (.object "java/io/InputStream"), accessFlags := 10, slot := 3, constantValue := 0 }, { name := "NEVER", type := .int, accessFlags := 26, slot := 4, constantValue := 0 }, { name := "MAYBE", type := .int, accessFlags := 26, slot := 5, constantValue := 0 }, { name := "allowSecurityManager", type := .int, accessFlags := 10, slot := 6, constantValue := 0 }, { name := "security", type := (.object "java/lang/SecurityManager"), accessFlags := 74, slot := 7, constantValue := 0 }, { name := "notSupportedJnuEncoding", type := (.object "java/lang/String"), accessFlags := 10, slot := 8, constantValue := 0 }, { name := "cons", type := (.object "java/io/Console"), accessFlags := 74, slot := 9, constantValue := 0 }, { name := "initialErrStream", type := (.object "java/io/PrintStream"), accessFlags := 74, slot := 10, constantValue := 0 }, { name := "props", type := (.object "java/util/Properties"), accessFlags := 10, slot := 11, constantValue := 0 }, { name := "lineSeparator", type := (.object "java/lang/String"), accessFlags := 10, slot := 12, constantValue := 0 }, { name := "bootLayer", type := (.object "java/lang/ModuleLayer"), accessFlags := 8, slot := 13, constantValue := 0 }]
  methods := #[k4m0, k4m1]
  instanceTypes := #[]
  staticTypes := #[(.object "java/io/InputStream"), (.object "java/io/PrintStream"), (.object "java/io/PrintStream"), (.object "java/io/InputStream"), .int, .int, .int, (.object "java/lang/SecurityManager"), (.object "java/lang/String"), (.object "java/io/Console"), (.object "java/io/PrintStream"), (.object "java/util/Properties"), (.object "java/lang/String"), (.object "java/lang/ModuleLayer")]
  resolved := Array.replicate 834 none
  statics := none }

def pool5 : Array CpInfo := pool [(1, u "java/lang/Cloneable"), (0, .class_ 1), (0, u "java/lang/Object"), (0, .class_ 3)] 3

/-- java/lang/Cloneable -/
def k5 : Class := { plain "java/lang/Cloneable" (some 0) with
  accessFlags := 1537
  interfaces := #[]
  cf := some (fileOf pool5 2 #[] #[] 1537 4 #[] #[])
  fields := #[]
  methods := #[]
  instanceTypes := #[]
  staticTypes := #[]
  resolved := Array.replicate 8 none
  statics := none }

def pool6 : Array CpInfo := pool [(1, u "java/io/Serializable"), (0, .class_ 1), (0, u "java/lang/Object"), (0, .class_ 3)] 3

/-- java/io/Serializable -/
def k6 : Class := { plain "java/io/Serializable" (some 0) with
  accessFlags := 1537
  interfaces := #[]
  cf := some (fileOf pool6 2 #[] #[] 1537 4 #[] #[])
  fields := #[]
  methods := #[]
  instanceTypes := #[]
  staticTypes := #[]
  resolved := Array.replicate 8 none
  statics := none }

/-- the primitive byte -/
def k7 : Class := { plain "byte" none with kind := .primitive 'B', accessFlags := 0x411 }
/-- [B -/
def k8 : Class := { plain "[B" (some 0) with kind := .array 7 .byte, interfaces := #[5, 6], accessFlags := 1041 }

/-- the primitive int -/
def k9 : Class := { plain "int" none with kind := .primitive 'I', accessFlags := 0x411 }
/-- [I -/
def k10 : Class := { plain "[I" (some 0) with kind := .array 9 .int, interfaces := #[5, 6], accessFlags := 1041 }

/-- the primitive long -/
def k11 : Class := { plain "long" none with kind := .primitive 'J', accessFlags := 0x411 }
/-- [J -/
def k12 : Class := { plain "[J" (some 0) with kind := .array 11 .long, interfaces := #[5, 6], accessFlags := 1041 }

def heap : Heap := #[]
def classes : Array Class := #[k0, k1, k2, k3, k4, k5, k6, k7, k8, k9, k10, k11, k12]
def interned : List (Array UInt16 × Addr) := []
def slotsUsed : Nat := 0
def theMethod : MethodId := ⟨1, 1⟩
def args0 : Array Value := #[.long 5, .long 1, .long 2, .int 3]
def aboutOver (below : List Frame) : State where
  vm := { classes := classes, interned := interned.toArray }
  heap := heap
  slotsUsed := slotsUsed
  threads := #[{ frames := .invoking theMethod args0 :: below }]
def below0 : List Frame := [.native { method := ⟨0, 0⟩, args := #[] }]
def about1 : State := aboutOver below0
def p0 : Program := .bare "" "" ""
def e0 : Env := launch0.env 0 0 0
theorem w_frames : about1.frames = Frame.invoking theMethod args0 :: below0 := rfl
set_option maxRecDepth 65536 in
theorem w_args : argsFit about1.vm theMethod args0 = true := by decide +kernel
set_option maxRecDepth 65536 in
theorem w_heap : heapFits about1 = true := by decide +kernel
set_option maxRecDepth 65536 in
theorem w_runnable : about1.curStatus? = some .runnable := by decide +kernel
set_option maxRecDepth 65536 in
theorem w_alone : about1.alone = true := by decide +kernel
set_option maxRecDepth 65536 in
theorem w_named : about1.methodNamed? x = some theMethod := by decide +kernel
set_option maxRecDepth 65536 in
theorem w_hears : about1.hears theMethod below0 = true := by decide +kernel
set_option maxRecDepth 65536 in
theorem w_ripe : about1.ripe theMethod args0 below0 = true := by decide +kernel
theorem w_running : about1.status = .running := rfl
set_option maxRecDepth 65536 in
theorem w_room : about1.hasRoom e0.platform room_1 = true :=
  launch0.hasRoom_least _ room_1 (by decide +kernel) (by decide +kernel) (by decide +kernel) (by decide +kernel) (by decide +kernel) (by decide +kernel)
theorem allAtoms_all (ts : List Jvm.Cond) (a : Array Jvm.Value) (st : Jvm.State) : (allAtoms ts).before a st = ts.all (fun c => c.before a st) := by
  induction ts with
  | nil => rfl
  | cons c t ih =>
    show (Jvm.Cond.and c (allAtoms t)).before a st = _
    rw [Jvm.Cond.before_and, ih, List.all_cons]
def words1 : List Jvm.Cond := Jvm.Cond.code x code maxLocals ret :: tables_1
/-- a 'code' word, met by the world's own term for the bytes: nothing is compared byte by byte -/
theorem code_word {y : MethodName} {bytes : ByteArray} {mx : Nat} {rt : Option FieldType} {a : Array Value} {s : State} {m : MethodId} {meth : Method} {c : Code} (h1 : s.methodNamed? y = some m) (h2 : s.vm.method? m = some meth) (h3 : meth.code = some c) (h4 : c.code = bytes)
    (h5 : (c.maxLocals == mx && c.exceptionTable.isEmpty && decide (c.maxStack ≤ mostOperands) && decide (meth.sig.returnType = rt) && !meth.locks && decide (parseMethodDescriptor y.desc = some meth.sig)) = true) : (Jvm.Cond.code y bytes mx rt).before a s = true := by
  simp only [Bool.and_eq_true, beq_iff_eq, Bool.not_eq_true', decide_eq_true_eq] at h5
  obtain ⟨⟨⟨⟨⟨g1, g2⟩, g3⟩, g4⟩, g5⟩, g6⟩ := h5
  simp [Cond.before, Cond.holds, Cond.value, h1, h2, h3, h4, g1, g2, g3, g4, g5, g6]
def isCode : Jvm.Cond → Bool
  | .code _ _ _ _ => true
  | _ => false
theorem all_split {L : List Jvm.Cond} {P : Jvm.Cond → Bool} (h1 : L.all (fun c => isCode c || P c) = true) (h2 : ∀ c ∈ L.filter isCode, P c = true) : L.all P = true := by
  refine List.all_eq_true.mpr fun c hc => ?_
  have h := List.all_eq_true.mp h1 c hc
  rcases Bool.eq_false_or_eq_true (isCode c) with hi | hi
  · exact h2 c (List.mem_filter.mpr ⟨hc, hi⟩)
  · simpa [hi] using h
set_option maxRecDepth 65536 in
theorem w_c0 : (Jvm.Cond.code x code maxLocals ret).before args0 about1 = true := code_word (m := ⟨1, 1⟩) (meth := k1m1) (c := k1c1) (by decide +kernel) rfl rfl rfl (by decide +kernel)
set_option maxRecDepth 65536 in
theorem w_c1 : (Jvm.Cond.code ({ cls := "java/lang/Math", name := "min", desc := "(JJ)J" } : Jvm.MethodName) jdk_29_method_70_code (4 : Nat) (Option.some Jvm.ClassFile.FieldType.long)).before args0 about1 = true := code_word (m := ⟨2, 2⟩) (meth := k2m2) (c := k2c2) (by decide +kernel) rfl rfl rfl (by decide +kernel)
set_option maxRecDepth 65536 in
theorem w_c2 : (Jvm.Cond.code ({ cls := "com/example/apportion/apportion/IdleGaps", name := "<init>", desc := "(J)V" } : Jvm.MethodName) prog_97_method_1_code (3 : Nat) (Option.none : Option Jvm.ClassFile.FieldType)).before args0 about1 = true := code_word (m := ⟨3, 0⟩) (meth := k3m0) (c := k3c0) (by decide +kernel) rfl rfl rfl (by decide +kernel)
set_option maxRecDepth 65536 in
theorem w_c3 : (Jvm.Cond.code ({ cls := "java/lang/Object", name := "<init>", desc := "()V" } : Jvm.MethodName) object_method_1_code (1 : Nat) (Option.none : Option Jvm.ClassFile.FieldType)).before args0 about1 = true := code_word (m := ⟨0, 0⟩) (meth := k0m0) (c := k0c0) (by decide +kernel) rfl rfl rfl (by decide +kernel)
set_option maxRecDepth 65536 in
theorem w_c4 : (Jvm.Cond.code ({ cls := "com/example/apportion/apportion/IdleGaps", name := "clear", desc := "()V" } : Jvm.MethodName) prog_97_method_8_code (1 : Nat) (Option.none : Option Jvm.ClassFile.FieldType)).before args0 about1 = true := code_word (m := ⟨3, 4⟩) (meth := k3m4) (c := k3c4) (by decide +kernel) rfl rfl rfl (by decide +kernel)
set_option maxRecDepth 65536 in
theorem w_c5 : (Jvm.Cond.code ({ cls := "com/example/apportion/apportion/IdleGapsFloorPinLaw", name := "endOf", desc := "([JII)J" } : Jvm.MethodName) method_3_code (3 : Nat) (Option.some Jvm.ClassFile.FieldType.long)).before args0 about1 = true := code_word (m := ⟨1, 2⟩) (meth := k1m2) (c := k1c2) (by decide +kernel) rfl rfl rfl (by decide +kernel)
set_option maxRecDepth 65536 in
theorem w_c6 : (Jvm.Cond.code ({ cls := "com/example/apportion/apportion/IdleGaps", name := "append", desc := "(JJ)V" } : Jvm.MethodName) prog_97_method_9_code (5 : Nat) (Option.none : Option Jvm.ClassFile.FieldType)).before args0 about1 = true := code_word (m := ⟨3, 5⟩) (meth := k3m5) (c := k3c5) (by decide +kernel) rfl rfl rfl (by decide +kernel)
set_option maxRecDepth 65536 in
theorem w_c7 : (Jvm.Cond.code ({ cls := "com/example/apportion/apportion/IdleGapsFloorPinLaw", name := "in", desc := "([JIIIJ)I" } : Jvm.MethodName) method_4_code (6 : Nat) (Option.some Jvm.ClassFile.FieldType.int)).before args0 about1 = true := code_word (m := ⟨1, 3⟩) (meth := k1m3) (c := k1c3) (by decide +kernel) rfl rfl rfl (by decide +kernel)
set_option maxRecDepth 65536 in
theorem w_c8 : (Jvm.Cond.code ({ cls := "com/example/apportion/apportion/IdleGaps", name := "floor", desc := "(J)I" } : Jvm.MethodName) prog_97_method_5_code (6 : Nat) (Option.some Jvm.ClassFile.FieldType.int)).before args0 about1 = true := code_word (m := ⟨3, 2⟩) (meth := k3m2) (c := k3c2) (by decide +kernel) rfl rfl rfl (by decide +kernel)
set_option maxRecDepth 65536 in
theorem w_c9 : (Jvm.Cond.code ({ cls := "com/example/apportion/apportion/IdleGaps", name := "dropFirst", desc := "()V" } : Jvm.MethodName) prog_97_method_7_code (1 : Nat) (Option.none : Option Jvm.ClassFile.FieldType)).before args0 about1 = true := code_word (m := ⟨3, 3⟩) (meth := k3m3) (c := k3c3) (by decide +kernel) rfl rfl rfl (by decide +kernel)
set_option maxRecDepth 65536 in
theorem w_c10 : (Jvm.Cond.code ({ cls := "com/example/apportion/apportion/IdleGaps", name := "spread", desc := "()V" } : Jvm.MethodName) prog_97_method_14_code (4 : Nat) (Option.none : Option Jvm.ClassFile.FieldType)).before args0 about1 = true := code_word (m := ⟨3, 6⟩) (meth := k3m6) (c := k3c6) (by decide +kernel) rfl rfl rfl (by decide +kernel)
set_option maxRecDepth 65536 in
theorem w_c11 : (Jvm.Cond.code ({ cls := "com/example/apportion/apportion/IdleGaps", name := "size", desc := "()I" } : Jvm.MethodName) prog_97_method_2_code (1 : Nat) (Option.some Jvm.ClassFile.FieldType.int)).before args0 about1 = true := code_word (m := ⟨3, 1⟩) (meth := k3m1) (c := k3c1) (by decide +kernel) rfl rfl rfl (by decide +kernel)
set_option maxRecDepth 65536 in
theorem w_c12 : (Jvm.Cond.code ({ cls := "java/lang/Math", name := "max", desc := "(II)I" } : Jvm.MethodName) jdk_29_method_65_code (2 : Nat) (Option.some Jvm.ClassFile.FieldType.int)).before args0 about1 = true := code_word (m := ⟨2, 1⟩) (meth := k2m1) (c := k2c1) (by decide +kernel) rfl rfl rfl (by decide +kernel)
def codes1 : List Jvm.Cond := [Jvm.Cond.code x code maxLocals ret, Jvm.Cond.code ({ cls := "java/lang/Math", name := "min", desc := "(JJ)J" } : Jvm.MethodName) jdk_29_method_70_code (4 : Nat) (Option.some Jvm.ClassFile.FieldType.long), Jvm.Cond.code ({ cls := "com/example/apportion/apportion/IdleGaps", name := "<init>", desc := "(J)V" } : Jvm.MethodName) prog_97_method_1_code (3 : Nat) (Option.none : Option Jvm.ClassFile.FieldType), Jvm.Cond.code ({ cls := "java/lang/Object", name := "<init>", desc := "()V" } : Jvm.MethodName) object_method_1_code (1 : Nat) (Option.none : Option Jvm.ClassFile.FieldType), Jvm.Cond.code ({ cls := "com/example/apportion/apportion/IdleGaps", name := "clear", desc := "()V" } : Jvm.MethodName) prog_97_method_8_code (1 : Nat) (Option.none : Option Jvm.ClassFile.FieldType), Jvm.Cond.code ({ cls := "com/example/apportion/apportion/IdleGapsFloorPinLaw", name := "endOf", desc := "([JII)J" } : Jvm.MethodName) method_3_code (3 : Nat) (Option.some Jvm.ClassFile.FieldType.long), Jvm.Cond.code ({ cls := "com/example/apportion/apportion/IdleGaps", name := "append", desc := "(JJ)V" } : Jvm.MethodName) prog_97_method_9_code (5 : Nat) (Option.none : Option Jvm.ClassFile.FieldType), Jvm.Cond.code ({ cls := "com/example/apportion/apportion/IdleGapsFloorPinLaw", name := "in", desc := "([JIIIJ)I" } : Jvm.MethodName) method_4_code (6 : Nat) (Option.some Jvm.ClassFile.FieldType.int), Jvm.Cond.code ({ cls := "com/example/apportion/apportion/IdleGaps", name := "floor", desc := "(J)I" } : Jvm.MethodName) prog_97_method_5_code (6 : Nat) (Option.some Jvm.ClassFile.FieldType.int), Jvm.Cond.code ({ cls := "com/example/apportion/apportion/IdleGaps", name := "dropFirst", desc := "()V" } : Jvm.MethodName) prog_97_method_7_code (1 : Nat) (Option.none : Option Jvm.ClassFile.FieldType), Jvm.Cond.code ({ cls := "com/example/apportion/apportion/IdleGaps", name := "spread", desc := "()V" } : Jvm.MethodName) prog_97_method_14_code (4 : Nat) (Option.none : Option Jvm.ClassFile.FieldType), Jvm.Cond.code ({ cls := "com/example/apportion/apportion/IdleGaps", name := "size", desc := "()I" } : Jvm.MethodName) prog_97_method_2_code (1 : Nat) (Option.some Jvm.ClassFile.FieldType.int), Jvm.Cond.code ({ cls := "java/lang/Math", name := "max", desc := "(II)I" } : Jvm.MethodName) jdk_29_method_65_code (2 : Nat) (Option.some Jvm.ClassFile.FieldType.int)]
set_option maxRecDepth 65536 in
theorem codes_eq : words1.filter isCode = codes1 := rfl
theorem w_codes : ∀ c ∈ words1.filter isCode, c.before args0 about1 = true := by
  rw [codes_eq]
  intro c hc
  simp only [codes1, List.mem_cons, List.not_mem_nil, or_false] at hc
  rcases hc with rfl | rfl | rfl | rfl | rfl | rfl | rfl | rfl | rfl | rfl | rfl | rfl | rfl
  · exact w_c0
  · exact w_c1
  · exact w_c2
  · exact w_c3
  · exact w_c4
  · exact w_c5
  · exact w_c6
  · exact w_c7
  · exact w_c8
  · exact w_c9
  · exact w_c10
  · exact w_c11
  · exact w_c12
set_option maxRecDepth 65536 in
theorem w_t1 : (words1.take 24).all (fun c => isCode c || c.before args0 about1) = true := by decide +kernel
set_option maxRecDepth 65536 in
theorem w_t2 : ((words1.drop 24).take 24).all (fun c => isCode c || c.before args0 about1) = true := by decide +kernel
set_option maxRecDepth 65536 in
theorem w_t3 : ((words1.drop 24).drop 24).all (fun c => isCode c || c.before args0 about1) = true := by decide +kernel
theorem w_tables : (allAtoms (Jvm.Cond.code x code maxLocals ret :: tables_1)).before args0 about1 = true := by
  rw [allAtoms_all]
  show words1.all (fun c => c.before args0 about1) = true
  refine all_split ?_ w_codes
  rw [← List.take_append_drop 24 words1, List.all_append, w_t1, ← List.take_append_drop 24 (words1.drop 24), List.all_append, w_t2, w_t3]
  rfl
set_option maxRecDepth 65536 in
theorem w_case : (Jvm.Cond.and given_1 narrow_1).before args0 about1 = true := by decide +kernel
theorem w_applies : (headSpec (Jvm.Cond.code x code maxLocals ret :: tables_1) room_1).applies x e0.platform about1 = true :=
  (Spec.applies_iff w_frames).mpr ⟨w_running, w_runnable, w_alone, w_named, w_hears, w_ripe, w_room, w_tables⟩
theorem atStart : AtStart classFile x code maxLocals ret World_1 tables_1 room_1 Calls_1 rest_1 Pre_1 launch0 p0 e0 about1 theMethod args0 below0 :=
  ⟨lists_1, trivial, launch0.admits_env _ _ _, launch0.least_env, fairChoices_fair.cas, fairChoices_fair.clock, w_frames, w_args, w_heap, w_applies, trivial, trivial, w_case⟩
end start1
theorem witness_1 : WitnessClaimed_1 := ⟨start1.p0, start1.e0, start1.about1, start1.theMethod, start1.args0, start1.below0, start1.atStart⟩
end Jvm.Pilot.@@N@@

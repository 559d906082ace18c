import JvmDerived
import JvmDerived.Pilot.@@N@@Statement
import JvmDerived.Pilot.@@N@@Code
set_option linter.unusedVariables false
set_option linter.unusedSimpArgs false
set_option maxRecDepth 65536
set_option maxHeartbeats 2000000

namespace Jvm.OwnWP
open Sem ClassFile Op Lib Jvm.Stand Jvm.Free Jvm.LawKit Jvm.RoadKit
/-- Java's shifts and its comparison of longs -/
def ushr (x y : Int32) : Int32 := (x.toUInt32 >>> (y &&& 31).toUInt32).toInt32
def ushrL (x : Int64) (y : Int32) : Int64 := (x.toUInt64 >>> (y &&& 0x3f).toInt64.toUInt64).toInt64
def cmpL (x y : Int64) : Int32 := if x > y then 1 else if x = y then 0 else -1
/-! A body: its class, its name, bytes, max_locals, what it returns, its room. -/
abbrev Bod : Type := String × String × ByteArray × Nat × Option FieldType × Room
abbrev Bod.own (B : Bod) : String := B.1
abbrev Bod.mname (B : Bod) : String := B.2.1
abbrev Bod.bytes (B : Bod) : ByteArray := B.2.2.1
abbrev Bod.maxL (B : Bod) : Nat := B.2.2.2.1
abbrev Bod.ret (B : Bod) : Option FieldType := B.2.2.2.2.1
abbrev Bod.room (B : Bod) : Room := B.2.2.2.2.2
def Ctx (p : Program) (s : State) (m : MethodId) (meth : Method) (c : Code) (Z : State) (B : Bod) : Prop :=
  p.tables.exec = Jvm.exec ∧ Z.Warmed39 s.vm ∧ s.vm.findClass B.own = some m.cls ∧ c.code = B.bytes ∧ c.maxLocals = B.maxL ∧ meth.sig.returnType = B.ret ∧ meth.locks = false ∧ meth.name = B.mname
/-- From pc, with these locals and this stack, over the heap h, the body returns, and Q says of what it returns and of the heap. -/
def WP (l : Launch) (B : Bod) (Z : State) (n0 : Nat) (Q : Option Value → Heap → Prop) (h : Heap) (cs sl pc : Nat) (ls : Array Slot) (st : List Value) : Prop :=
  ∀ (p : Program) (e : Env) (s : State) (m : MethodId) (args : Array Value) (below : List Frame) (meth : Method) (c : Code) (T : State) (L : List Loc),
    Ctx p s m meth c Z B → Stand p l e B.room s m args below meth c T L cs sl → T.heap = h → Fr n0 L → n0 ≤ h.size →
    ∃ (U : State) (v : Option Value) (L' : List Loc), Steps p.tables e below (T.setTop (mkF m pc ls st)) U ∧ U.status = .running ∧ Ended U below (.returned v) ∧ Q v U.heap ∧ Fr n0 L' ∧ n0 ≤ U.heap.size ∧ FrameEnd s (.returned v) U L' B.room.cells B.room.slots
/-- The contract of a body: called with the arguments as over the heap h0. -/
def OMet (l : Launch) (y : MethodName) (B : Bod) (Z : State) (n0 : Nat) (as : Array Value) (h0 : Heap) (Q : Option Value → Heap → Prop) : Prop :=
  n0 ≤ h0.size → ∀ ws, MetFree l y (head1 (Cond.code y B.bytes B.maxL B.ret :: ws) B.room) (fun a U => a = as ∧ Z.Warmed39 U.vm ∧ U.heap = h0) (fun _ _ _ _ _ => True) (fun _ U o U' => ∃ v L, o = .returned v ∧ (Q v U'.heap ∧ Fr n0 L ∧ n0 ≤ U'.heap.size) ∧ FrameEnd U o U' L B.room.cells B.room.slots)
section W
variable {l : Launch} {B : Bod} {Z : State} {n0 : Nat} {Q : Option Value → Heap → Prop} {h : Heap} {cs sl pc pc' : Nat} {ls ls' : Array Slot} {st rest : List Value} {a0 : Array Value}
theorem OMet.of_wp {y : MethodName} {as : Array Value} {ls0 : Array Slot} (hpl : plainFor y = true) (h1 : y.cls = B.own) (h2 : y.name = B.mname) (hef : ∀ m, entryFrame m as B.maxL = mkF m 0 ls0 []) (H : WP l B Z n0 Q h 0 0 0 ls0 []) : OMet l y B Z n0 as h Q := by
  intro hn ws
  refine MetFree.of_bodySF hpl hisR ?_
  intro p e s m args below meth c s₁ Bd hml0 hP hK
  obtain ⟨rfl, hZ, hh⟩ := hP
  have hnm := (name_of_methodNamed Bd.named Bd.method).1
  have hown : s.vm.findClass y.cls = some m.cls := findClass_of_methodNamed Bd.named
  have X0 := Stand.of_body Bd
  have e0 : s₁.heap = h := by rw [← hh, Bd.state]; rfl
  obtain ⟨U, v, L', a1, a2, a3, a4, a5, a6, a7⟩ := H p e s m args below meth c s₁ [] ⟨Bd.exec, hZ, h1 ▸ hown, Bd.bytes, hml0, Bd.returns, Bd.notSynchronized, hnm.trans h2⟩ X0 e0 (Fr.nil n0) hn
  exact ⟨U, _, castTop (hef m) a1, a2, a3, v, L', rfl, ⟨a4, a5, a6⟩, a7⟩
theorem WP.mono {Q' : Option Value → Heap → Prop} (H : WP l B Z n0 Q' h cs sl pc ls st) (hq : ∀ v h', Q' v h' → Q v h') : WP l B Z n0 Q h cs sl pc ls st := by
  intro p e s m args below meth c T L C X hT N hn
  obtain ⟨U, v, L', a1, a2, a3, a4, r⟩ := H p e s m args below meth c T L C X hT N hn
  exact ⟨U, v, L', a1, a2, a3, hq _ _ a4, r⟩
/-- a plain step: the state stays, the frame moves -/
theorem WP.step {pc' : Nat} {ls' : Array Slot} {st' : List Value}
    (S : ∀ (p : Program) (e : Env) (s : State) (m : MethodId) (args : Array Value) (below : List Frame) (meth : Method) (c : Code) (T : State) (L : List Loc), Ctx p s m meth c Z B → Stand p l e B.room s m args below meth c T L cs sl → T.heap = h → ∀ target, Steps p.tables e below (T.setTop (mkF m pc' ls' st')) target → Steps p.tables e below (T.setTop (mkF m pc ls st)) target)
    (H : WP l B Z n0 Q h cs sl pc' ls' st') : WP l B Z n0 Q h cs sl pc ls st := by
  intro p e s m args below meth c T L C X hT N hn
  obtain ⟨U, v, L', a1, r⟩ := H p e s m args below meth c T L C X hT N hn
  exact ⟨U, v, L', S p e s m args below meth c T L C X hT _ a1, r⟩
/-- a step to another state -/
theorem WP.stepT {pc' cs' sl' : Nat} {ls' : Array Slot} {st' : List Value} {P : Heap → Prop}
    (S : ∀ (p : Program) (e : Env) (s : State) (m : MethodId) (args : Array Value) (below : List Frame) (meth : Method) (c : Code) (T : State) (L : List Loc), Ctx p s m meth c Z B → Stand p l e B.room s m args below meth c T L cs sl → T.heap = h → Fr n0 L → n0 ≤ h.size →
      ∃ (T' : State) (h' : Heap) (L' : List Loc), Stand p l e B.room s m args below meth c T' L' cs' sl' ∧ T'.heap = h' ∧ Fr n0 L' ∧ n0 ≤ h'.size ∧ P h' ∧ ∀ target, Steps p.tables e below (T'.setTop (mkF m pc' ls' st')) target → Steps p.tables e below (T.setTop (mkF m pc ls st)) target)
    (H : ∀ h', P h' → WP l B Z n0 Q h' cs' sl' pc' ls' st') : WP l B Z n0 Q h cs sl pc ls st := by
  intro p e s m args below meth c T L C X hT N hn
  obtain ⟨T', h', L1, X', e', N', n', hp, st⟩ := S p e s m args below meth c T L C X hT N hn
  obtain ⟨U, v, L', a1, r⟩ := H h' hp p e s m args below meth c T' L1 C X' e' N' n'
  exact ⟨U, v, L', st _ a1, r⟩
/-! loads, stores, constants -/
theorem WP.iloadN {k : Fin 4} {v : Int32} (hd : decode B.bytes pc = .ok (.iload_n k, 1)) (hl : ls[k.val]? = some (.val (.int v))) (hp : pc + 1 = pc') (H : WP l B Z n0 Q h cs sl pc' ls (.int v :: st)) : WP l B Z n0 Q h cs sl pc ls st := by
  subst hp; exact WP.step (fun p e s m args below meth c T L C X hT target k => XS.iloadN X.here C.1 rfl (hb C.2.2.2.1 hd) hl k) H
theorem WP.iload {k : Nat} {v : Int32} (hd : decode B.bytes pc = .ok (.iload k, 2)) (hl : ls[k]? = some (.val (.int v))) (hp : pc + 2 = pc') (H : WP l B Z n0 Q h cs sl pc' ls (.int v :: st)) : WP l B Z n0 Q h cs sl pc ls st := by
  subst hp; exact WP.step (fun p e s m args below meth c T L C X hT target k => XS.iload X.here C.1 rfl (hb C.2.2.2.1 hd) hl k) H
theorem WP.lloadN {k : Fin 4} {v : Int64} (hd : decode B.bytes pc = .ok (.lload_n k, 1)) (hl : ls[k.val]? = some (.val (.long v))) (hp : pc + 1 = pc') (H : WP l B Z n0 Q h cs sl pc' ls (.long v :: st)) : WP l B Z n0 Q h cs sl pc ls st := by
  subst hp; exact WP.step (fun p e s m args below meth c T L C X hT target k => XS.lloadN X.here C.1 rfl (hb C.2.2.2.1 hd) hl k) H
theorem WP.lload {k : Nat} {v : Int64} (hd : decode B.bytes pc = .ok (.lload k, 2)) (hl : ls[k]? = some (.val (.long v))) (hp : pc + 2 = pc') (H : WP l B Z n0 Q h cs sl pc' ls (.long v :: st)) : WP l B Z n0 Q h cs sl pc ls st := by
  subst hp; exact WP.step (fun p e s m args below meth c T L C X hT target k => XS.lload X.here C.1 rfl (hb C.2.2.2.1 hd) hl k) H
theorem WP.aloadN {k : Fin 4} {v : Value} (hd : decode B.bytes pc = .ok (.aload_n k, 1)) (hl : ls[k.val]? = some (.val v)) (hv : v.isRef = true) (hp : pc + 1 = pc') (H : WP l B Z n0 Q h cs sl pc' ls (v :: st)) : WP l B Z n0 Q h cs sl pc ls st := by
  subst hp; exact WP.step (fun p e s m args below meth c T L C X hT target k => XS.aloadN X.here C.1 rfl (hb C.2.2.2.1 hd) hl hv k) H
theorem WP.aload {k : Nat} {v : Value} (hd : decode B.bytes pc = .ok (.aload k, 2)) (hl : ls[k]? = some (.val v)) (hv : v.isRef = true) (hp : pc + 2 = pc') (H : WP l B Z n0 Q h cs sl pc' ls (v :: st)) : WP l B Z n0 Q h cs sl pc ls st := by
  subst hp; exact WP.step (fun p e s m args below meth c T L C X hT target k => XS.aload X.here C.1 rfl (hb C.2.2.2.1 hd) hl hv k) H
theorem WP.istoreN {k : Fin 4} {x : Int32} (hd : decode B.bytes pc = .ok (.istore_n k, 1)) (hp : pc + 1 = pc') (hl : storeLocals ls k.val (.int x) = some ls') (H : WP l B Z n0 Q h cs sl pc' ls' st) : WP l B Z n0 Q h cs sl pc ls (.int x :: st) := by
  subst hp; exact WP.step (fun p e s m args below meth c T L C X hT target k => XS.istoreN X.here C.1 rfl (hb C.2.2.2.1 hd) rfl hl k) H
theorem WP.istore {k : Nat} {x : Int32} (hd : decode B.bytes pc = .ok (.istore k, 2)) (hp : pc + 2 = pc') (hl : storeLocals ls k (.int x) = some ls') (H : WP l B Z n0 Q h cs sl pc' ls' st) : WP l B Z n0 Q h cs sl pc ls (.int x :: st) := by
  subst hp; exact WP.step (fun p e s m args below meth c T L C X hT target k => XS.istore X.here C.1 rfl (hb C.2.2.2.1 hd) rfl hl k) H
theorem WP.lstoreN {k : Fin 4} {x : Int64} (hd : decode B.bytes pc = .ok (.lstore_n k, 1)) (hp : pc + 1 = pc') (hl : storeLocals ls k.val (.long x) = some ls') (H : WP l B Z n0 Q h cs sl pc' ls' st) : WP l B Z n0 Q h cs sl pc ls (.long x :: st) := by
  subst hp; exact WP.step (fun p e s m args below meth c T L C X hT target k => XS.lstoreN X.here C.1 rfl (hb C.2.2.2.1 hd) rfl hl k) H
theorem WP.lstore {k : Nat} {x : Int64} (hd : decode B.bytes pc = .ok (.lstore k, 2)) (hp : pc + 2 = pc') (hl : storeLocals ls k (.long x) = some ls') (H : WP l B Z n0 Q h cs sl pc' ls' st) : WP l B Z n0 Q h cs sl pc ls (.long x :: st) := by
  subst hp; exact WP.step (fun p e s m args below meth c T L C X hT target k => XS.lstore X.here C.1 rfl (hb C.2.2.2.1 hd) rfl hl k) H
theorem WP.astoreN {k : Fin 4} {x : Value} (hd : decode B.bytes pc = .ok (.astore_n k, 1)) (hp : pc + 1 = pc') (hv : x.isRef = true) (hl : storeLocals ls k.val x = some ls') (H : WP l B Z n0 Q h cs sl pc' ls' st) : WP l B Z n0 Q h cs sl pc ls (x :: st) := by
  subst hp; exact WP.step (fun p e s m args below meth c T L C X hT target k => XS.astoreN X.here C.1 rfl (hb C.2.2.2.1 hd) rfl hv hl k) H
theorem WP.astore {k : Nat} {x : Value} (hd : decode B.bytes pc = .ok (.astore k, 2)) (hp : pc + 2 = pc') (hv : x.isRef = true) (hl : storeLocals ls k x = some ls') (H : WP l B Z n0 Q h cs sl pc' ls' st) : WP l B Z n0 Q h cs sl pc ls (x :: st) := by
  subst hp; exact WP.step (fun p e s m args below meth c T L C X hT target k => XS.astore X.here C.1 rfl (hb C.2.2.2.1 hd) rfl hv hl k) H
theorem WP.iconst {i : Int} {z : Int32} (hd : decode B.bytes pc = .ok (.iconst i, 1)) (hz : Int32.ofInt i = z) (hp : pc + 1 = pc') (H : WP l B Z n0 Q h cs sl pc' ls (.int z :: st)) : WP l B Z n0 Q h cs sl pc ls st := by
  subst hp hz; exact WP.step (fun p e s m args below meth c T L C X hT target k => XS.iconst X.here C.1 rfl (hb C.2.2.2.1 hd) k) H
theorem WP.bipush {i : Int} {z : Int32} (hd : decode B.bytes pc = .ok (.bipush i, 2)) (hz : (Int8.ofInt i).toInt32 = z) (hp : pc + 2 = pc') (H : WP l B Z n0 Q h cs sl pc' ls (.int z :: st)) : WP l B Z n0 Q h cs sl pc ls st := by
  subst hp hz; exact WP.step (fun p e s m args below meth c T L C X hT target k => XS.bipush X.here C.1 rfl (hb C.2.2.2.1 hd) k) H
theorem WP.sipush {i : Int} {z : Int32} (hd : decode B.bytes pc = .ok (.sipush i, 3)) (hz : (Int16.ofInt i).toInt32 = z) (hp : pc + 3 = pc') (H : WP l B Z n0 Q h cs sl pc' ls (.int z :: st)) : WP l B Z n0 Q h cs sl pc ls st := by
  subst hp hz; exact WP.step (fun p e s m args below meth c T L C X hT target k => XS.sipush X.here C.1 rfl (hb C.2.2.2.1 hd) k) H
theorem WP.lconst0 (hd : decode B.bytes pc = .ok (.lconst 0, 1)) (hp : pc + 1 = pc') (H : WP l B Z n0 Q h cs sl pc' ls (.long 0 :: st)) : WP l B Z n0 Q h cs sl pc ls st := by
  subst hp; exact WP.step (fun p e s m args below meth c T L C X hT target k => XS.lconst X.here C.1 rfl (hb C.2.2.2.1 hd) k) H
theorem WP.lconst1 (hd : decode B.bytes pc = .ok (.lconst 1, 1)) (hp : pc + 1 = pc') (H : WP l B Z n0 Q h cs sl pc' ls (.long 1 :: st)) : WP l B Z n0 Q h cs sl pc ls st := by
  subst hp; exact WP.step (fun p e s m args below meth c T L C X hT target k => XS.lconst X.here C.1 rfl (hb C.2.2.2.1 hd) k) H
theorem WP.aconstNull (hd : decode B.bytes pc = .ok (.aconst_null, 1)) (hp : pc + 1 = pc') (H : WP l B Z n0 Q h cs sl pc' ls (.null :: st)) : WP l B Z n0 Q h cs sl pc ls st := by
  subst hp; exact WP.step (fun p e s m args below meth c T L C X hT target k => XS.aconstNull X.here C.1 rfl (hb C.2.2.2.1 hd) k) H
theorem WP.ldcI {i : Nat} {z : Int32} (hd : decode B.bytes pc = .ok (.ldc i, 2)) (w : (Cond.constant B.own i z).before a0 Z = true) (hp : pc + 2 = pc') (H : WP l B Z n0 Q h cs sl pc' ls (.int z :: st)) : WP l B Z n0 Q h cs sl pc ls st := by
  subst hp; exact WP.step (fun p e s m args below meth c T L C X hT target k => X.ldcInt C.1 C.2.2.1 (mvT C.2.1 w) (g := mkF m pc ls st) rfl (hb C.2.2.2.1 hd) _ k) H
theorem WP.ldcwI {i : Nat} {z : Int32} (hd : decode B.bytes pc = .ok (.ldc_w i, 3)) (w : (Cond.constant B.own i z).before a0 Z = true) (hp : pc + 3 = pc') (H : WP l B Z n0 Q h cs sl pc' ls (.int z :: st)) : WP l B Z n0 Q h cs sl pc ls st := by
  subst hp; exact WP.step (fun p e s m args below meth c T L C X hT target k => X.ldcwInt C.1 C.2.2.1 (mvT C.2.1 w) (g := mkF m pc ls st) rfl (hb C.2.2.2.1 hd) _ k) H
theorem WP.ldc2J {i : Nat} {z : Int64} (hd : decode B.bytes pc = .ok (.ldc2_w i, 3)) (w : (Cond.constantLong B.own i z).before a0 Z = true) (hp : pc + 3 = pc') (H : WP l B Z n0 Q h cs sl pc' ls (.long z :: st)) : WP l B Z n0 Q h cs sl pc ls st := by
  subst hp; exact WP.step (fun p e s m args below meth c T L C X hT target k => X.ldc2Long C.1 C.2.2.1 (mvT C.2.1 w) (g := mkF m pc ls st) rfl (hb C.2.2.2.1 hd) _ k) H
theorem WP.iinc {k : Nat} {cst : Int} {x y : Int32} (hd : decode B.bytes pc = .ok (.iinc k cst, 3)) (hp : pc + 3 = pc') (hl : ls[k]? = some (.val (.int x))) (hy : x + Int32.ofInt cst = y) (hl' : storeLocals ls k (.int y) = some ls') (H : WP l B Z n0 Q h cs sl pc' ls' st) : WP l B Z n0 Q h cs sl pc ls st := by
  subst hp hy; exact WP.step (fun p e s m args below meth c T L C X hT target k => XS.iinc X.here C.1 rfl (hb C.2.2.2.1 hd) hl hl' k) H
/-! the stack -/
theorem WP.dup {x : Value} (hd : decode B.bytes pc = .ok (.dup, 1)) (hc : x.category = 1) (hp : pc + 1 = pc') (H : WP l B Z n0 Q h cs sl pc' ls (x :: x :: st)) : WP l B Z n0 Q h cs sl pc ls (x :: st) := by
  subst hp; exact WP.step (fun p e s m args below meth c T L C X hT target k => XS.dup X.here C.1 rfl (hb C.2.2.2.1 hd) rfl hc k) H
theorem WP.pop {x : Value} (hd : decode B.bytes pc = .ok (.pop, 1)) (hc : x.category = 1) (hp : pc + 1 = pc') (H : WP l B Z n0 Q h cs sl pc' ls st) : WP l B Z n0 Q h cs sl pc ls (x :: st) := by
  subst hp; exact WP.step (fun p e s m args below meth c T L C X hT target k => XS.pop X.here C.1 rfl (hb C.2.2.2.1 hd) rfl hc k) H
theorem WP.dupX1 {x y : Value} (hd : decode B.bytes pc = .ok (.dup_x1, 1)) (hc : x.category = 1) (hc' : y.category = 1) (hp : pc + 1 = pc') (H : WP l B Z n0 Q h cs sl pc' ls (x :: y :: x :: st)) : WP l B Z n0 Q h cs sl pc ls (x :: y :: st) := by
  subst hp; exact WP.step (fun p e s m args below meth c T L C X hT target k => XS.dupX1 X.here C.1 rfl (hb C.2.2.2.1 hd) rfl hc hc' k) H
theorem WP.dup2 {x y : Value} (hd : decode B.bytes pc = .ok (.dup2, 1)) (hc : x.category = 1) (hc' : y.category = 1) (hp : pc + 1 = pc') (H : WP l B Z n0 Q h cs sl pc' ls (x :: y :: x :: y :: st)) : WP l B Z n0 Q h cs sl pc ls (x :: y :: st) := by
  subst hp; exact WP.step (fun p e s m args below meth c T L C X hT target k => Jvm.Free.XT.dup2 X.here C.1 rfl (hb C.2.2.2.1 hd) rfl hc hc' k) H
/-! arithmetic -/
theorem WP.iadd {x : Int32} {y : Int32} (hd : decode B.bytes pc = .ok (.iadd, 1)) (hp : pc + 1 = pc') (H : WP l B Z n0 Q h cs sl pc' ls (.int (x + y) :: st)) : WP l B Z n0 Q h cs sl pc ls (.int y :: .int x :: st) := by
  subst hp; exact WP.step (fun p e s m args below meth c T L C X hT target k => XS.iadd X.here C.1 rfl (hb C.2.2.2.1 hd) rfl k) H
theorem WP.isub {x : Int32} {y : Int32} (hd : decode B.bytes pc = .ok (.isub, 1)) (hp : pc + 1 = pc') (H : WP l B Z n0 Q h cs sl pc' ls (.int (x - y) :: st)) : WP l B Z n0 Q h cs sl pc ls (.int y :: .int x :: st) := by
  subst hp; exact WP.step (fun p e s m args below meth c T L C X hT target k => XS.isub X.here C.1 rfl (hb C.2.2.2.1 hd) rfl k) H
theorem WP.imul {x : Int32} {y : Int32} (hd : decode B.bytes pc = .ok (.imul, 1)) (hp : pc + 1 = pc') (H : WP l B Z n0 Q h cs sl pc' ls (.int (x * y) :: st)) : WP l B Z n0 Q h cs sl pc ls (.int y :: .int x :: st) := by
  subst hp; exact WP.step (fun p e s m args below meth c T L C X hT target k => XS.imul X.here C.1 rfl (hb C.2.2.2.1 hd) rfl k) H
theorem WP.iand {x : Int32} {y : Int32} (hd : decode B.bytes pc = .ok (.iand, 1)) (hp : pc + 1 = pc') (H : WP l B Z n0 Q h cs sl pc' ls (.int (x &&& y) :: st)) : WP l B Z n0 Q h cs sl pc ls (.int y :: .int x :: st) := by
  subst hp; exact WP.step (fun p e s m args below meth c T L C X hT target k => XS.iand X.here C.1 rfl (hb C.2.2.2.1 hd) rfl k) H
theorem WP.ior {x : Int32} {y : Int32} (hd : decode B.bytes pc = .ok (.ior, 1)) (hp : pc + 1 = pc') (H : WP l B Z n0 Q h cs sl pc' ls (.int (x ||| y) :: st)) : WP l B Z n0 Q h cs sl pc ls (.int y :: .int x :: st) := by
  subst hp; exact WP.step (fun p e s m args below meth c T L C X hT target k => XS.ior X.here C.1 rfl (hb C.2.2.2.1 hd) rfl k) H
theorem WP.ixor {x : Int32} {y : Int32} (hd : decode B.bytes pc = .ok (.ixor, 1)) (hp : pc + 1 = pc') (H : WP l B Z n0 Q h cs sl pc' ls (.int (x ^^^ y) :: st)) : WP l B Z n0 Q h cs sl pc ls (.int y :: .int x :: st) := by
  subst hp; exact WP.step (fun p e s m args below meth c T L C X hT target k => XS.ixor X.here C.1 rfl (hb C.2.2.2.1 hd) rfl k) H
theorem WP.ladd {x : Int64} {y : Int64} (hd : decode B.bytes pc = .ok (.ladd, 1)) (hp : pc + 1 = pc') (H : WP l B Z n0 Q h cs sl pc' ls (.long (x + y) :: st)) : WP l B Z n0 Q h cs sl pc ls (.long y :: .long x :: st) := by
  subst hp; exact WP.step (fun p e s m args below meth c T L C X hT target k => XS.ladd X.here C.1 rfl (hb C.2.2.2.1 hd) rfl k) H
theorem WP.lsub {x : Int64} {y : Int64} (hd : decode B.bytes pc = .ok (.lsub, 1)) (hp : pc + 1 = pc') (H : WP l B Z n0 Q h cs sl pc' ls (.long (x - y) :: st)) : WP l B Z n0 Q h cs sl pc ls (.long y :: .long x :: st) := by
  subst hp; exact WP.step (fun p e s m args below meth c T L C X hT target k => XS.lsub X.here C.1 rfl (hb C.2.2.2.1 hd) rfl k) H
theorem WP.lmul {x : Int64} {y : Int64} (hd : decode B.bytes pc = .ok (.lmul, 1)) (hp : pc + 1 = pc') (H : WP l B Z n0 Q h cs sl pc' ls (.long (x * y) :: st)) : WP l B Z n0 Q h cs sl pc ls (.long y :: .long x :: st) := by
  subst hp; exact WP.step (fun p e s m args below meth c T L C X hT target k => XS.lmul X.here C.1 rfl (hb C.2.2.2.1 hd) rfl k) H
theorem WP.land {x : Int64} {y : Int64} (hd : decode B.bytes pc = .ok (.land, 1)) (hp : pc + 1 = pc') (H : WP l B Z n0 Q h cs sl pc' ls (.long (x &&& y) :: st)) : WP l B Z n0 Q h cs sl pc ls (.long y :: .long x :: st) := by
  subst hp; exact WP.step (fun p e s m args below meth c T L C X hT target k => XS.land X.here C.1 rfl (hb C.2.2.2.1 hd) rfl k) H
theorem WP.lor {x : Int64} {y : Int64} (hd : decode B.bytes pc = .ok (.lor, 1)) (hp : pc + 1 = pc') (H : WP l B Z n0 Q h cs sl pc' ls (.long (x ||| y) :: st)) : WP l B Z n0 Q h cs sl pc ls (.long y :: .long x :: st) := by
  subst hp; exact WP.step (fun p e s m args below meth c T L C X hT target k => XS.lor X.here C.1 rfl (hb C.2.2.2.1 hd) rfl k) H
theorem WP.lxor {x : Int64} {y : Int64} (hd : decode B.bytes pc = .ok (.lxor, 1)) (hp : pc + 1 = pc') (H : WP l B Z n0 Q h cs sl pc' ls (.long (x ^^^ y) :: st)) : WP l B Z n0 Q h cs sl pc ls (.long y :: .long x :: st) := by
  subst hp; exact WP.step (fun p e s m args below meth c T L C X hT target k => XS.lxor X.here C.1 rfl (hb C.2.2.2.1 hd) rfl k) H
theorem WP.ishl {x : Int32} {y : Int32} (hd : decode B.bytes pc = .ok (.ishl, 1)) (hp : pc + 1 = pc') (H : WP l B Z n0 Q h cs sl pc' ls (.int (x <<< (y &&& 31)) :: st)) : WP l B Z n0 Q h cs sl pc ls (.int y :: .int x :: st) := by
  subst hp; exact WP.step (fun p e s m args below meth c T L C X hT target k => XS.ishl X.here C.1 rfl (hb C.2.2.2.1 hd) rfl k) H
theorem WP.ishr {x : Int32} {y : Int32} (hd : decode B.bytes pc = .ok (.ishr, 1)) (hp : pc + 1 = pc') (H : WP l B Z n0 Q h cs sl pc' ls (.int (x >>> (y &&& 31)) :: st)) : WP l B Z n0 Q h cs sl pc ls (.int y :: .int x :: st) := by
  subst hp; exact WP.step (fun p e s m args below meth c T L C X hT target k => XS.ishr X.here C.1 rfl (hb C.2.2.2.1 hd) rfl k) H
theorem WP.iushr {x : Int32} {y : Int32} (hd : decode B.bytes pc = .ok (.iushr, 1)) (hp : pc + 1 = pc') (H : WP l B Z n0 Q h cs sl pc' ls (.int (ushr x y) :: st)) : WP l B Z n0 Q h cs sl pc ls (.int y :: .int x :: st) := by
  subst hp; exact WP.step (fun p e s m args below meth c T L C X hT target k => XS.iushr X.here C.1 rfl (hb C.2.2.2.1 hd) rfl k) H
theorem WP.lshl {x : Int64} {y : Int32} (hd : decode B.bytes pc = .ok (.lshl, 1)) (hp : pc + 1 = pc') (H : WP l B Z n0 Q h cs sl pc' ls (.long (x <<< (y &&& 63).toInt64) :: st)) : WP l B Z n0 Q h cs sl pc ls (.int y :: .long x :: st) := by
  subst hp; exact WP.step (fun p e s m args below meth c T L C X hT target k => XS.lshl X.here C.1 rfl (hb C.2.2.2.1 hd) rfl k) H
theorem WP.lshr {x : Int64} {y : Int32} (hd : decode B.bytes pc = .ok (.lshr, 1)) (hp : pc + 1 = pc') (H : WP l B Z n0 Q h cs sl pc' ls (.long (x >>> (y &&& 63).toInt64) :: st)) : WP l B Z n0 Q h cs sl pc ls (.int y :: .long x :: st) := by
  subst hp; exact WP.step (fun p e s m args below meth c T L C X hT target k => XS.lshr X.here C.1 rfl (hb C.2.2.2.1 hd) rfl k) H
theorem WP.lushr {x : Int64} {y : Int32} (hd : decode B.bytes pc = .ok (.lushr, 1)) (hp : pc + 1 = pc') (H : WP l B Z n0 Q h cs sl pc' ls (.long (ushrL x y) :: st)) : WP l B Z n0 Q h cs sl pc ls (.int y :: .long x :: st) := by
  subst hp; exact WP.step (fun p e s m args below meth c T L C X hT target k => XS.lushr X.here C.1 rfl (hb C.2.2.2.1 hd) rfl k) H
theorem WP.ineg {x : Int32}  (hd : decode B.bytes pc = .ok (.ineg, 1)) (hp : pc + 1 = pc') (H : WP l B Z n0 Q h cs sl pc' ls (.int (-x) :: st)) : WP l B Z n0 Q h cs sl pc ls (.int x :: st) := by
  subst hp; exact WP.step (fun p e s m args below meth c T L C X hT target k => XS.ineg X.here C.1 rfl (hb C.2.2.2.1 hd) rfl k) H
theorem WP.lneg {x : Int64}  (hd : decode B.bytes pc = .ok (.lneg, 1)) (hp : pc + 1 = pc') (H : WP l B Z n0 Q h cs sl pc' ls (.long (-x) :: st)) : WP l B Z n0 Q h cs sl pc ls (.long x :: st) := by
  subst hp; exact WP.step (fun p e s m args below meth c T L C X hT target k => XS.lneg X.here C.1 rfl (hb C.2.2.2.1 hd) rfl k) H
theorem WP.i2l {x : Int32}  (hd : decode B.bytes pc = .ok (.i2l, 1)) (hp : pc + 1 = pc') (H : WP l B Z n0 Q h cs sl pc' ls (.long x.toInt64 :: st)) : WP l B Z n0 Q h cs sl pc ls (.int x :: st) := by
  subst hp; exact WP.step (fun p e s m args below meth c T L C X hT target k => XS.i2l X.here C.1 rfl (hb C.2.2.2.1 hd) rfl k) H
theorem WP.l2i {x : Int64}  (hd : decode B.bytes pc = .ok (.l2i, 1)) (hp : pc + 1 = pc') (H : WP l B Z n0 Q h cs sl pc' ls (.int x.toInt32 :: st)) : WP l B Z n0 Q h cs sl pc ls (.long x :: st) := by
  subst hp; exact WP.step (fun p e s m args below meth c T L C X hT target k => XS.l2i X.here C.1 rfl (hb C.2.2.2.1 hd) rfl k) H
theorem WP.i2b {x : Int32}  (hd : decode B.bytes pc = .ok (.i2b, 1)) (hp : pc + 1 = pc') (H : WP l B Z n0 Q h cs sl pc' ls (.int x.toInt8.toInt32 :: st)) : WP l B Z n0 Q h cs sl pc ls (.int x :: st) := by
  subst hp; exact WP.step (fun p e s m args below meth c T L C X hT target k => XS.i2b X.here C.1 rfl (hb C.2.2.2.1 hd) rfl k) H
theorem WP.i2s {x : Int32}  (hd : decode B.bytes pc = .ok (.i2s, 1)) (hp : pc + 1 = pc') (H : WP l B Z n0 Q h cs sl pc' ls (.int x.toInt16.toInt32 :: st)) : WP l B Z n0 Q h cs sl pc ls (.int x :: st) := by
  subst hp; exact WP.step (fun p e s m args below meth c T L C X hT target k => XS.i2s X.here C.1 rfl (hb C.2.2.2.1 hd) rfl k) H
theorem WP.i2c {x : Int32}  (hd : decode B.bytes pc = .ok (.i2c, 1)) (hp : pc + 1 = pc') (H : WP l B Z n0 Q h cs sl pc' ls (.int x.toUInt32.toUInt16.toUInt32.toInt32 :: st)) : WP l B Z n0 Q h cs sl pc ls (.int x :: st) := by
  subst hp; exact WP.step (fun p e s m args below meth c T L C X hT target k => XS.i2c X.here C.1 rfl (hb C.2.2.2.1 hd) rfl k) H
/-! division (never by zero here), branches -/
theorem WP.irem {x y : Int32} (hd : decode B.bytes pc = .ok (.irem, 1)) (hy : y ≠ 0) (hp : pc + 1 = pc') (H : WP l B Z n0 Q h cs sl pc' ls (.int (x % y) :: st)) : WP l B Z n0 Q h cs sl pc ls (.int y :: .int x :: st) := by
  subst hp; exact WP.step (fun p e s m args below meth c T L C X hT target k => iremM X C.1 rfl (hb C.2.2.2.1 hd) rfl hy k) H
theorem WP.idiv {x y : Int32} (hd : decode B.bytes pc = .ok (.idiv, 1)) (hy : y ≠ 0) (hp : pc + 1 = pc') (H : WP l B Z n0 Q h cs sl pc' ls (.int (x / y) :: st)) : WP l B Z n0 Q h cs sl pc ls (.int y :: .int x :: st) := by
  subst hp; exact WP.step (fun p e s m args below meth c T L C X hT target k => XS.idiv X.here C.1 rfl (hb C.2.2.2.1 hd) rfl hy k) H
theorem WP.lrem {x y : Int64} (hd : decode B.bytes pc = .ok (.lrem, 1)) (hy : y ≠ 0) (hp : pc + 1 = pc') (H : WP l B Z n0 Q h cs sl pc' ls (.long (x - x / y * y) :: st)) : WP l B Z n0 Q h cs sl pc ls (.long y :: .long x :: st) := by
  subst hp; exact WP.step (fun p e s m args below meth c T L C X hT target k => XS.lrem X.here C.1 rfl (hb C.2.2.2.1 hd) rfl hy k) H
theorem WP.goto {o : Int} (hd : decode B.bytes pc = .ok (.goto o, 3)) (ht : (pc : Int) + o = (pc' : Int)) (H : WP l B Z n0 Q h cs sl pc' ls st) : WP l B Z n0 Q h cs sl pc ls st :=
  WP.step (fun p e s m args below meth c T L C X hT target k => XS.goto X.here C.1 rfl (pc0 := pc) (pc' := pc') rfl (hb C.2.2.2.1 hd) (by omega) (by omega) k) H
theorem own_holds (cd : ClassFile.Cond) (x y : Int32) : if_icmp.holds cd x y = match cd with | .eq => decide (x.toInt = y.toInt) | .ne => decide (x.toInt ≠ y.toInt) | .lt => decide (x.toInt < y.toInt) | .ge => decide (y.toInt ≤ x.toInt) | .gt => decide (y.toInt < x.toInt) | .le => decide (x.toInt ≤ y.toInt) := by
  have q : x = y ↔ x.toInt = y.toInt := ⟨fun h => by rw [h], Int32.toInt_inj.mp⟩
  by_cases e : x = y
  · subst e
    cases cd <;> simp [if_icmp.holds]
  · have e' : ¬ x.toInt = y.toInt := fun h => e (q.mpr h)
    cases cd <;> simp [if_icmp.holds, e, e', Int32.lt_iff_toInt_lt, Int32.le_iff_toInt_le]
theorem own_cmpL (cd : ClassFile.Cond) (x y : Int64) : if_icmp.holds cd (cmpL x y) 0 = match cd with | .eq => decide (x.toInt = y.toInt) | .ne => decide (x.toInt ≠ y.toInt) | .lt => decide (x.toInt < y.toInt) | .ge => decide (y.toInt ≤ x.toInt) | .gt => decide (y.toInt < x.toInt) | .le => decide (x.toInt ≤ y.toInt) := by
  have q : x = y ↔ x.toInt = y.toInt := ⟨fun h => by rw [h], Int64.toInt_inj.mp⟩
  rw [own_holds]
  simp only [cmpL, GT.gt, Int64.lt_iff_toInt_lt, q]
  have e1 : (1 : Int32).toInt = 1 := rfl
  have e0 : (0 : Int32).toInt = 0 := rfl
  have em : (-1 : Int32).toInt = -1 := rfl
  by_cases c1 : y.toInt < x.toInt
  · simp only [c1, if_true, e1, e0]
    cases cd <;> simp <;> omega
  · by_cases c2 : x.toInt = y.toInt
    · simp only [c2, Int.lt_irrefl, if_false, if_true, e0]
      cases cd <;> simp
    · simp only [c1, c2, if_false, em, e0]
      cases cd <;> simp <;> omega
theorem WP.icmp {cd : ClassFile.Cond} {x y : Int32} {o : Int} {tgt : Nat} (hd : decode B.bytes pc = .ok (.if_icmp cd o, 3)) (ht : (pc : Int) + o = (tgt : Int)) (hp : pc + 3 = pc') (HY : if_icmp.holds cd x y = true → WP l B Z n0 Q h cs sl tgt ls st) (HN : if_icmp.holds cd x y = false → WP l B Z n0 Q h cs sl pc' ls st) : WP l B Z n0 Q h cs sl pc ls (.int y :: .int x :: st) := by
  subst hp
  cases hc : if_icmp.holds cd x y
  · exact WP.step (fun p e s m args below meth c T L C X hT target k => XS.icmpNo X.here C.1 rfl (hb C.2.2.2.1 hd) rfl hc k) (HN hc)
  · exact WP.step (fun p e s m args below meth c T L C X hT target k => XS.icmpYes X.here C.1 rfl (pc0 := pc) (pc' := tgt) rfl (hb C.2.2.2.1 hd) rfl hc (by omega) (by omega) k) (HY hc)
theorem WP.ifc {cd : ClassFile.Cond} {x : Int32} {o : Int} {tgt : Nat} (hd : decode B.bytes pc = .ok (.ifCond cd o, 3)) (ht : (pc : Int) + o = (tgt : Int)) (hp : pc + 3 = pc') (HY : if_icmp.holds cd x 0 = true → WP l B Z n0 Q h cs sl tgt ls st) (HN : if_icmp.holds cd x 0 = false → WP l B Z n0 Q h cs sl pc' ls st) : WP l B Z n0 Q h cs sl pc ls (.int x :: st) := by
  subst hp
  cases hc : if_icmp.holds cd x 0
  · exact WP.step (fun p e s m args below meth c T L C X hT target k => XS.ifNo X.here C.1 rfl (hb C.2.2.2.1 hd) rfl ((if0 _ _).trans hc) k) (HN hc)
  · exact WP.step (fun p e s m args below meth c T L C X hT target k => XS.ifYes X.here C.1 rfl (pc0 := pc) (pc' := tgt) rfl (hb C.2.2.2.1 hd) rfl ((if0 _ _).trans hc) (by omega) (by omega) k) (HY hc)
theorem WP.lcmp {x y : Int64} (hd : decode B.bytes pc = .ok (.lcmp, 1)) (hp : pc + 1 = pc') (H : WP l B Z n0 Q h cs sl pc' ls (.int (cmpL x y) :: st)) : WP l B Z n0 Q h cs sl pc ls (.long y :: .long x :: st) := by
  subst hp; exact WP.step (fun p e s m args below meth c T L C X hT target k => XS.lcmp X.here C.1 rfl (hb C.2.2.2.1 hd) rfl k) H
theorem WP.icmpEq {x y : Int32} {o : Int} {tgt : Nat} (hd : decode B.bytes pc = .ok (.if_icmp .eq o, 3)) (ht : (pc : Int) + o = (tgt : Int)) (hp : pc + 3 = pc') (HY : x.toInt = y.toInt → WP l B Z n0 Q h cs sl tgt ls st) (HN : x.toInt ≠ y.toInt → WP l B Z n0 Q h cs sl pc' ls st) : WP l B Z n0 Q h cs sl pc ls (.int y :: .int x :: st) :=
  WP.icmp hd ht hp (fun q => HY (by rw [own_holds] at q; simpa using q)) (fun q => HN (by rw [own_holds] at q; simpa using q))
theorem WP.ifEq {x : Int32} {o : Int} {tgt : Nat} (hd : decode B.bytes pc = .ok (.ifCond .eq o, 3)) (ht : (pc : Int) + o = (tgt : Int)) (hp : pc + 3 = pc') (HY : x.toInt = 0 → WP l B Z n0 Q h cs sl tgt ls st) (HN : x.toInt ≠ 0 → WP l B Z n0 Q h cs sl pc' ls st) : WP l B Z n0 Q h cs sl pc ls (.int x :: st) :=
  WP.ifc hd ht hp (fun q => HY (by rw [own_holds] at q; simpa using q)) (fun q => HN (by rw [own_holds] at q; simpa using q))
theorem WP.lcmpEq {x y : Int64} {o : Int} {tgt pc1 : Nat} (hd : decode B.bytes pc = .ok (.lcmp, 1)) (h1 : pc + 1 = pc1) (hd1 : decode B.bytes pc1 = .ok (.ifCond .eq o, 3)) (ht : (pc1 : Int) + o = (tgt : Int)) (hp : pc1 + 3 = pc') (HY : x.toInt = y.toInt → WP l B Z n0 Q h cs sl tgt ls st) (HN : x.toInt ≠ y.toInt → WP l B Z n0 Q h cs sl pc' ls st) : WP l B Z n0 Q h cs sl pc ls (.long y :: .long x :: st) :=
  WP.lcmp hd h1 (WP.ifc hd1 ht hp (fun q => HY (by rw [own_cmpL] at q; simpa using q)) (fun q => HN (by rw [own_cmpL] at q; simpa using q)))
theorem WP.icmpNe {x y : Int32} {o : Int} {tgt : Nat} (hd : decode B.bytes pc = .ok (.if_icmp .ne o, 3)) (ht : (pc : Int) + o = (tgt : Int)) (hp : pc + 3 = pc') (HY : x.toInt ≠ y.toInt → WP l B Z n0 Q h cs sl tgt ls st) (HN : x.toInt = y.toInt → WP l B Z n0 Q h cs sl pc' ls st) : WP l B Z n0 Q h cs sl pc ls (.int y :: .int x :: st) :=
  WP.icmp hd ht hp (fun q => HY (by rw [own_holds] at q; simpa using q)) (fun q => HN (by rw [own_holds] at q; simpa using q))
theorem WP.ifNe {x : Int32} {o : Int} {tgt : Nat} (hd : decode B.bytes pc = .ok (.ifCond .ne o, 3)) (ht : (pc : Int) + o = (tgt : Int)) (hp : pc + 3 = pc') (HY : x.toInt ≠ 0 → WP l B Z n0 Q h cs sl tgt ls st) (HN : x.toInt = 0 → WP l B Z n0 Q h cs sl pc' ls st) : WP l B Z n0 Q h cs sl pc ls (.int x :: st) :=
  WP.ifc hd ht hp (fun q => HY (by rw [own_holds] at q; simpa using q)) (fun q => HN (by rw [own_holds] at q; simpa using q))
theorem WP.lcmpNe {x y : Int64} {o : Int} {tgt pc1 : Nat} (hd : decode B.bytes pc = .ok (.lcmp, 1)) (h1 : pc + 1 = pc1) (hd1 : decode B.bytes pc1 = .ok (.ifCond .ne o, 3)) (ht : (pc1 : Int) + o = (tgt : Int)) (hp : pc1 + 3 = pc') (HY : x.toInt ≠ y.toInt → WP l B Z n0 Q h cs sl tgt ls st) (HN : x.toInt = y.toInt → WP l B Z n0 Q h cs sl pc' ls st) : WP l B Z n0 Q h cs sl pc ls (.long y :: .long x :: st) :=
  WP.lcmp hd h1 (WP.ifc hd1 ht hp (fun q => HY (by rw [own_cmpL] at q; simpa using q)) (fun q => HN (by rw [own_cmpL] at q; simpa using q)))
theorem WP.icmpLt {x y : Int32} {o : Int} {tgt : Nat} (hd : decode B.bytes pc = .ok (.if_icmp .lt o, 3)) (ht : (pc : Int) + o = (tgt : Int)) (hp : pc + 3 = pc') (HY : x.toInt < y.toInt → WP l B Z n0 Q h cs sl tgt ls st) (HN : y.toInt ≤ x.toInt → WP l B Z n0 Q h cs sl pc' ls st) : WP l B Z n0 Q h cs sl pc ls (.int y :: .int x :: st) :=
  WP.icmp hd ht hp (fun q => HY (by rw [own_holds] at q; simpa using q)) (fun q => HN (by rw [own_holds] at q; simpa using q))
theorem WP.ifLt {x : Int32} {o : Int} {tgt : Nat} (hd : decode B.bytes pc = .ok (.ifCond .lt o, 3)) (ht : (pc : Int) + o = (tgt : Int)) (hp : pc + 3 = pc') (HY : x.toInt < 0 → WP l B Z n0 Q h cs sl tgt ls st) (HN : 0 ≤ x.toInt → WP l B Z n0 Q h cs sl pc' ls st) : WP l B Z n0 Q h cs sl pc ls (.int x :: st) :=
  WP.ifc hd ht hp (fun q => HY (by rw [own_holds] at q; simpa using q)) (fun q => HN (by rw [own_holds] at q; simpa using q))
theorem WP.lcmpLt {x y : Int64} {o : Int} {tgt pc1 : Nat} (hd : decode B.bytes pc = .ok (.lcmp, 1)) (h1 : pc + 1 = pc1) (hd1 : decode B.bytes pc1 = .ok (.ifCond .lt o, 3)) (ht : (pc1 : Int) + o = (tgt : Int)) (hp : pc1 + 3 = pc') (HY : x.toInt < y.toInt → WP l B Z n0 Q h cs sl tgt ls st) (HN : y.toInt ≤ x.toInt → WP l B Z n0 Q h cs sl pc' ls st) : WP l B Z n0 Q h cs sl pc ls (.long y :: .long x :: st) :=
  WP.lcmp hd h1 (WP.ifc hd1 ht hp (fun q => HY (by rw [own_cmpL] at q; simpa using q)) (fun q => HN (by rw [own_cmpL] at q; simpa using q)))
theorem WP.icmpGe {x y : Int32} {o : Int} {tgt : Nat} (hd : decode B.bytes pc = .ok (.if_icmp .ge o, 3)) (ht : (pc : Int) + o = (tgt : Int)) (hp : pc + 3 = pc') (HY : y.toInt ≤ x.toInt → WP l B Z n0 Q h cs sl tgt ls st) (HN : x.toInt < y.toInt → WP l B Z n0 Q h cs sl pc' ls st) : WP l B Z n0 Q h cs sl pc ls (.int y :: .int x :: st) :=
  WP.icmp hd ht hp (fun q => HY (by rw [own_holds] at q; simpa using q)) (fun q => HN (by rw [own_holds] at q; simpa using q))
theorem WP.ifGe {x : Int32} {o : Int} {tgt : Nat} (hd : decode B.bytes pc = .ok (.ifCond .ge o, 3)) (ht : (pc : Int) + o = (tgt : Int)) (hp : pc + 3 = pc') (HY : 0 ≤ x.toInt → WP l B Z n0 Q h cs sl tgt ls st) (HN : x.toInt < 0 → WP l B Z n0 Q h cs sl pc' ls st) : WP l B Z n0 Q h cs sl pc ls (.int x :: st) :=
  WP.ifc hd ht hp (fun q => HY (by rw [own_holds] at q; simpa using q)) (fun q => HN (by rw [own_holds] at q; simpa using q))
theorem WP.lcmpGe {x y : Int64} {o : Int} {tgt pc1 : Nat} (hd : decode B.bytes pc = .ok (.lcmp, 1)) (h1 : pc + 1 = pc1) (hd1 : decode B.bytes pc1 = .ok (.ifCond .ge o, 3)) (ht : (pc1 : Int) + o = (tgt : Int)) (hp : pc1 + 3 = pc') (HY : y.toInt ≤ x.toInt → WP l B Z n0 Q h cs sl tgt ls st) (HN : x.toInt < y.toInt → WP l B Z n0 Q h cs sl pc' ls st) : WP l B Z n0 Q h cs sl pc ls (.long y :: .long x :: st) :=
  WP.lcmp hd h1 (WP.ifc hd1 ht hp (fun q => HY (by rw [own_cmpL] at q; simpa using q)) (fun q => HN (by rw [own_cmpL] at q; simpa using q)))
theorem WP.icmpGt {x y : Int32} {o : Int} {tgt : Nat} (hd : decode B.bytes pc = .ok (.if_icmp .gt o, 3)) (ht : (pc : Int) + o = (tgt : Int)) (hp : pc + 3 = pc') (HY : y.toInt < x.toInt → WP l B Z n0 Q h cs sl tgt ls st) (HN : x.toInt ≤ y.toInt → WP l B Z n0 Q h cs sl pc' ls st) : WP l B Z n0 Q h cs sl pc ls (.int y :: .int x :: st) :=
  WP.icmp hd ht hp (fun q => HY (by rw [own_holds] at q; simpa using q)) (fun q => HN (by rw [own_holds] at q; simpa using q))
theorem WP.ifGt {x : Int32} {o : Int} {tgt : Nat} (hd : decode B.bytes pc = .ok (.ifCond .gt o, 3)) (ht : (pc : Int) + o = (tgt : Int)) (hp : pc + 3 = pc') (HY : 0 < x.toInt → WP l B Z n0 Q h cs sl tgt ls st) (HN : x.toInt ≤ 0 → WP l B Z n0 Q h cs sl pc' ls st) : WP l B Z n0 Q h cs sl pc ls (.int x :: st) :=
  WP.ifc hd ht hp (fun q => HY (by rw [own_holds] at q; simpa using q)) (fun q => HN (by rw [own_holds] at q; simpa using q))
theorem WP.lcmpGt {x y : Int64} {o : Int} {tgt pc1 : Nat} (hd : decode B.bytes pc = .ok (.lcmp, 1)) (h1 : pc + 1 = pc1) (hd1 : decode B.bytes pc1 = .ok (.ifCond .gt o, 3)) (ht : (pc1 : Int) + o = (tgt : Int)) (hp : pc1 + 3 = pc') (HY : y.toInt < x.toInt → WP l B Z n0 Q h cs sl tgt ls st) (HN : x.toInt ≤ y.toInt → WP l B Z n0 Q h cs sl pc' ls st) : WP l B Z n0 Q h cs sl pc ls (.long y :: .long x :: st) :=
  WP.lcmp hd h1 (WP.ifc hd1 ht hp (fun q => HY (by rw [own_cmpL] at q; simpa using q)) (fun q => HN (by rw [own_cmpL] at q; simpa using q)))
theorem WP.icmpLe {x y : Int32} {o : Int} {tgt : Nat} (hd : decode B.bytes pc = .ok (.if_icmp .le o, 3)) (ht : (pc : Int) + o = (tgt : Int)) (hp : pc + 3 = pc') (HY : x.toInt ≤ y.toInt → WP l B Z n0 Q h cs sl tgt ls st) (HN : y.toInt < x.toInt → WP l B Z n0 Q h cs sl pc' ls st) : WP l B Z n0 Q h cs sl pc ls (.int y :: .int x :: st) :=
  WP.icmp hd ht hp (fun q => HY (by rw [own_holds] at q; simpa using q)) (fun q => HN (by rw [own_holds] at q; simpa using q))
theorem WP.ifLe {x : Int32} {o : Int} {tgt : Nat} (hd : decode B.bytes pc = .ok (.ifCond .le o, 3)) (ht : (pc : Int) + o = (tgt : Int)) (hp : pc + 3 = pc') (HY : x.toInt ≤ 0 → WP l B Z n0 Q h cs sl tgt ls st) (HN : 0 < x.toInt → WP l B Z n0 Q h cs sl pc' ls st) : WP l B Z n0 Q h cs sl pc ls (.int x :: st) :=
  WP.ifc hd ht hp (fun q => HY (by rw [own_holds] at q; simpa using q)) (fun q => HN (by rw [own_holds] at q; simpa using q))
theorem WP.lcmpLe {x y : Int64} {o : Int} {tgt pc1 : Nat} (hd : decode B.bytes pc = .ok (.lcmp, 1)) (h1 : pc + 1 = pc1) (hd1 : decode B.bytes pc1 = .ok (.ifCond .le o, 3)) (ht : (pc1 : Int) + o = (tgt : Int)) (hp : pc1 + 3 = pc') (HY : x.toInt ≤ y.toInt → WP l B Z n0 Q h cs sl tgt ls st) (HN : y.toInt < x.toInt → WP l B Z n0 Q h cs sl pc' ls st) : WP l B Z n0 Q h cs sl pc ls (.long y :: .long x :: st) :=
  WP.lcmp hd h1 (WP.ifc hd1 ht hp (fun q => HY (by rw [own_cmpL] at q; simpa using q)) (fun q => HN (by rw [own_cmpL] at q; simpa using q)))
theorem WP.ifnullY {o : Int} (hd : decode B.bytes pc = .ok (.ifnull o, 3)) (ht : (pc : Int) + o = (pc' : Int)) (H : WP l B Z n0 Q h cs sl pc' ls st) : WP l B Z n0 Q h cs sl pc ls (.null :: st) :=
  WP.step (fun p e s m args below meth c T L C X hT target k => XS.ifnullYes X.here C.1 rfl (pc0 := pc) (pc' := pc') rfl (hb C.2.2.2.1 hd) rfl (by omega) (by omega) k) H
theorem WP.ifnullN {o : Int} {a : Addr} (hd : decode B.bytes pc = .ok (.ifnull o, 3)) (hp : pc + 3 = pc') (H : WP l B Z n0 Q h cs sl pc' ls st) : WP l B Z n0 Q h cs sl pc ls (.ref a :: st) := by
  subst hp; exact WP.step (fun p e s m args below meth c T L C X hT target k => XS.ifnullNo X.here C.1 rfl (hb C.2.2.2.1 hd) rfl k) H
theorem WP.ifnonnullN {o : Int} (hd : decode B.bytes pc = .ok (.ifnonnull o, 3)) (hp : pc + 3 = pc') (H : WP l B Z n0 Q h cs sl pc' ls st) : WP l B Z n0 Q h cs sl pc ls (.null :: st) := by
  subst hp; exact WP.step (fun p e s m args below meth c T L C X hT target k => XS.ifnonnullNo X.here C.1 rfl (hb C.2.2.2.1 hd) rfl k) H
theorem WP.ifnonnullY {o : Int} {a : Addr} (hd : decode B.bytes pc = .ok (.ifnonnull o, 3)) (ht : (pc : Int) + o = (pc' : Int)) (H : WP l B Z n0 Q h cs sl pc' ls st) : WP l B Z n0 Q h cs sl pc ls (.ref a :: st) :=
  WP.step (fun p e s m args below meth c T L C X hT target k => XS.ifnonnullYes X.here C.1 rfl (pc0 := pc) (pc' := pc') rfl (hb C.2.2.2.1 hd) rfl (by omega) (by omega) k) H
theorem WP.acmpEq {x y : Value} {o : Int} {tgt : Nat} (hd : decode B.bytes pc = .ok (.if_acmp .eq o, 3)) (ht : (pc : Int) + o = (tgt : Int)) (hp : pc + 3 = pc') (h1 : x.isRef = true) (h2 : y.isRef = true) (HY : x = y → WP l B Z n0 Q h cs sl tgt ls st) (HN : x ≠ y → WP l B Z n0 Q h cs sl pc' ls st) : WP l B Z n0 Q h cs sl pc ls (y :: x :: st) := by
  subst hp
  have e1 : ((pc : Int) + o).toNat = tgt := by omega
  by_cases q : x = y
  · exact WP.step (fun p e s m args below meth c T L C X hT target k => Jvm.RoadKit.acmp (g := mkF m pc ls (y :: x :: st)) X C.1 rfl h1 h2 (pc0 := pc) (pc' := tgt) (same := true) rfl (hb C.2.2.2.1 hd) rfl (by simp [q]) (by omega) (by simp [acV, e1]) k) (HY q)
  · exact WP.step (fun p e s m args below meth c T L C X hT target k => Jvm.RoadKit.acmp (g := mkF m pc ls (y :: x :: st)) X C.1 rfl h1 h2 (pc0 := pc) (pc' := pc + 3) (same := false) rfl (hb C.2.2.2.1 hd) rfl (by simp [q]) (by omega) (by simp [acV]) k) (HN q)
theorem WP.acmpNe {x y : Value} {o : Int} {tgt : Nat} (hd : decode B.bytes pc = .ok (.if_acmp .ne o, 3)) (ht : (pc : Int) + o = (tgt : Int)) (hp : pc + 3 = pc') (h1 : x.isRef = true) (h2 : y.isRef = true) (HY : x ≠ y → WP l B Z n0 Q h cs sl tgt ls st) (HN : x = y → WP l B Z n0 Q h cs sl pc' ls st) : WP l B Z n0 Q h cs sl pc ls (y :: x :: st) := by
  subst hp
  have e1 : ((pc : Int) + o).toNat = tgt := by omega
  by_cases q : x = y
  · exact WP.step (fun p e s m args below meth c T L C X hT target k => Jvm.RoadKit.acmp (g := mkF m pc ls (y :: x :: st)) X C.1 rfl h1 h2 (pc0 := pc) (pc' := pc + 3) (same := true) rfl (hb C.2.2.2.1 hd) rfl (by simp [q]) (by omega) (by simp [acV]) k) (HN q)
  · exact WP.step (fun p e s m args below meth c T L C X hT target k => Jvm.RoadKit.acmp (g := mkF m pc ls (y :: x :: st)) X C.1 rfl h1 h2 (pc0 := pc) (pc' := tgt) (same := false) rfl (hb C.2.2.2.1 hd) rfl (by simp [q]) (by omega) (by simp [acV, e1]) k) (HY q)
/-! returns -/
theorem WP.ret0 (hd : decode B.bytes pc = .ok (.return_, 1)) (hr : B.ret = none) (hc : cs ≤ B.room.cells) (hs : sl ≤ B.room.slots) (hQ : Q none h) : WP l B Z n0 Q h cs sl pc ls [] := by
  intro p e s m args below meth c T L C X hT N hn
  obtain ⟨hx, hZ, hown, hby, hml, hret, hlk, hnm⟩ := C
  obtain ⟨fs, hrr, hrun, hended, hW, hsame⟩ := X.leave (v := none) (fun _ => rfl) hlk
  have hh : (T.setFrames fs).heap = h := hT
  exact ⟨T.setFrames fs, none, L, X.returnOut hx (hret.trans hr) (hb hby hd) hrr, hrun, hended, by rw [hh]; exact hQ, N, by rw [hh]; exact hn, ⟨_, rfl⟩, hW, hsame.mono hc hs⟩
theorem WP.retI {z : Int32} (hd : decode B.bytes pc = .ok (.ireturn, 1)) (hr : B.ret = some .int) (hc : cs ≤ B.room.cells) (hs : sl ≤ B.room.slots) (hQ : Q (some (.int z)) h) : WP l B Z n0 Q h cs sl pc ls (.int z :: st) := by
  intro p e s m args below meth c T L C X hT N hn
  obtain ⟨hx, hZ, hown, hby, hml, hret, hlk, hnm⟩ := C
  obtain ⟨fs, hrr, hrun, hended, hW, hsame⟩ := X.leave (v := some (.int z)) (fun q => by rw [hret, hr] at q; cases q) hlk
  have hh : (T.setFrames fs).heap = h := hT
  exact ⟨T.setFrames fs, _, L, retOut X hx (hret.trans hr) rfl (Or.inl ⟨rfl, Or.inl rfl, z, rfl⟩) (hb hby hd) hrr, hrun, hended, by rw [hh]; exact hQ, N, by rw [hh]; exact hn, ⟨_, rfl⟩, hW, hsame.mono hc hs⟩
theorem WP.retN {z : Int32} {t : FieldType} (hd : decode B.bytes pc = .ok (.ireturn, 1)) (hr : B.ret = some t) (ht : t = .boolean ∨ t = .byte ∨ t = .char ∨ t = .short) (hc : cs ≤ B.room.cells) (hs : sl ≤ B.room.slots) (hQ : Q (some (.int (nar t z))) h) : WP l B Z n0 Q h cs sl pc ls (.int z :: st) := by
  intro p e s m args below meth c T L C X hT N hn
  obtain ⟨hx, hZ, hown, hby, hml, hret, hlk, hnm⟩ := C
  obtain ⟨fs, hrr, hrun, hended, hW, hsame⟩ := X.leave (v := some (.int (nar t z))) (fun q => by rw [hret, hr] at q; cases q) hlk
  have hh : (T.setFrames fs).heap = h := hT
  exact ⟨T.setFrames fs, _, L, Jvm.RoadKit.retN X hx (hret.trans hr) ht (hb hby hd) hrr, hrun, hended, by rw [hh]; exact hQ, N, by rw [hh]; exact hn, ⟨_, rfl⟩, hW, hsame.mono hc hs⟩
theorem WP.retJ {z : Int64} (hd : decode B.bytes pc = .ok (.lreturn, 1)) (hr : B.ret = some .long) (hc : cs ≤ B.room.cells) (hs : sl ≤ B.room.slots) (hQ : Q (some (.long z)) h) : WP l B Z n0 Q h cs sl pc ls (.long z :: st) := by
  intro p e s m args below meth c T L C X hT N hn
  obtain ⟨hx, hZ, hown, hby, hml, hret, hlk, hnm⟩ := C
  obtain ⟨fs, hrr, hrun, hended, hW, hsame⟩ := X.leave (v := some (.long z)) (fun q => by rw [hret, hr] at q; cases q) hlk
  have hh : (T.setFrames fs).heap = h := hT
  exact ⟨T.setFrames fs, _, L, retOut X hx (hret.trans hr) rfl (Or.inr (Or.inl ⟨rfl, rfl, z, rfl⟩)) (hb hby hd) hrr, hrun, hended, by rw [hh]; exact hQ, N, by rw [hh]; exact hn, ⟨_, rfl⟩, hW, hsame.mono hc hs⟩
theorem WP.retA {z : Value} {t : FieldType} (hd : decode B.bytes pc = .ok (.areturn, 1)) (hr : B.ret = some t) (ht : t.isReference = true) (hz : z.isRef = true) (hc : cs ≤ B.room.cells) (hs : sl ≤ B.room.slots) (hQ : Q (some z) h) : WP l B Z n0 Q h cs sl pc ls (z :: st) := by
  intro p e s m args below meth c T L C X hT N hn
  obtain ⟨hx, hZ, hown, hby, hml, hret, hlk, hnm⟩ := C
  obtain ⟨fs, hrr, hrun, hended, hW, hsame⟩ := X.leave (v := some z) (fun q => by rw [hret, hr] at q; cases q) hlk
  have hh : (T.setFrames fs).heap = h := hT
  have hnw : narrow t z = z := by rcases ref_cases hz with rfl | ⟨a, rfl⟩ <;> cases t <;> rfl
  exact ⟨T.setFrames fs, _, L, retOut X hx (hret.trans hr) hnw (Or.inr (Or.inr (Or.inr (Or.inr ⟨rfl, ht, hz⟩)))) (hb hby hd) hrr, hrun, hended, by rw [hh]; exact hQ, N, by rw [hh]; exact hn, ⟨_, rfl⟩, hW, hsame.mono hc hs⟩
/-! calls -/
theorem WP.callS {y : MethodName} {By : Bod} {as : List Value} {idx : Nat} {Qy : Option Value → Heap → Prop} {ps : List FieldType} {r : Option FieldType}
    (hd : decode B.bytes pc = .ok (.invokestatic idx, 3)) (w1 : (Cond.methodLink B.own idx y).before a0 Z = true) (w2 : (Cond.static y).before a0 Z = true) (w3 : (Cond.initialized y.cls).before a0 Z = true) (w4 : (Cond.code y By.bytes By.maxL By.ret).before a0 Z = true)
    (hy : y.cls ≠ "java/lang/invoke/MethodHandle" ∧ y.cls ≠ "java/lang/invoke/VarHandle") (hM : OMet l y By Z n0 as.toArray h Qy) (hpd : parseMethodDescriptor y.desc = some ⟨ps, r⟩) (hlen : as.length = ps.length) (hst : st = as.reverse ++ rest) (hls : ls.size = B.maxL)
    (hfr : By.room.frames + 1 ≤ B.room.frames) (hlo : (rest.map fun v => v.category).sum + (By.maxL + 11) + By.room.locals ≤ B.room.locals) (hc : cs + By.room.cells ≤ B.room.cells) (hs : sl + By.room.slots ≤ B.room.slots) (hp : pc + 3 = pc')
    (H : ∀ v h', Qy v h' → WP l B Z n0 Q h' (cs + By.room.cells) (sl + By.room.slots) pc' ls (v.toList ++ rest)) : WP l B Z n0 Q h cs sl pc ls st := by
  subst hp
  intro p e s m args below meth c T L C X hT N hn
  obtain ⟨hx, hZ, hown, hby, hml, hret, hlk, hnm⟩ := C
  obtain ⟨v, _, ⟨T1, L1, k1, n1⟩, -, X1, ⟨Lc, hQ, l1, y1, z1⟩, stp⟩ := Jvm.LawKit.callS X hx hown (mvT hZ w1) (mvT hZ w2) (mvT hZ w3) (mvT hZ w4) hy (backOf (W := (rest.map fun v => v.category).sum) (Q := fun v h' L => Qy v h' ∧ Fr n0 L ∧ n0 ≤ h'.size) (hM hn []) hZ w4 w3 hfr hlo) (g := mkF m pc ls st) rfl (by rw [hml]; exact hls) (argsL := as) (rest := rest) (lenOf hpd hlen) hst (by show 2 * 0 + _ ≤ _; omega) (hb hby hd) (fun _ _ => ⟨rfl, hT, hc, hs⟩)
  dsimp only [Pt.U, Pt.locs, Pt.cells, Pt.slots] at X1 l1 y1 z1 stp hQ
  subst l1 y1 z1
  obtain ⟨U, v', L', a1, rr⟩ := H v T1.heap hQ.1 p e s m args below meth c T1 _ ⟨hx, hZ, hown, hby, hml, hret, hlk, hnm⟩ X1 rfl (N.app hQ.2.1) hQ.2.2
  exact ⟨U, v', L', stp _ a1, rr⟩
theorem WP.callI {y : MethodName} {By : Bod} {as : List Value} {a : Addr} {idx : Nat} {Qy : Option Value → Heap → Prop} {ps : List FieldType} {r : Option FieldType}
    (hd : decode B.bytes pc = .ok (.invokespecial idx, 3)) (w1 : (Cond.methodLink B.own idx y).before a0 Z = true) (w2 : (Cond.instanceMethod y).before a0 Z = true) (w3 : (Cond.initialized y.cls).before a0 Z = true) (w4 : (Cond.code y By.bytes By.maxL By.ret).before a0 Z = true) (hyn : y.name = "<init>") (hyr : By.ret = none)
    (hy : y.cls ≠ "java/lang/invoke/MethodHandle" ∧ y.cls ≠ "java/lang/invoke/VarHandle") (hM : OMet l y By Z n0 (.ref a :: as).toArray h Qy) (hpd : parseMethodDescriptor y.desc = some ⟨ps, r⟩) (hlen : as.length = ps.length) (hst : st = as.reverse ++ .ref a :: rest) (hls : ls.size = B.maxL)
    (hfr : By.room.frames + 1 ≤ B.room.frames) (hlo : (rest.map fun v => v.category).sum + (By.maxL + 11) + By.room.locals ≤ B.room.locals) (hc : cs + By.room.cells ≤ B.room.cells) (hs : sl + By.room.slots ≤ B.room.slots) (hp : pc + 3 = pc')
    (H : ∀ v h', Qy v h' → WP l B Z n0 Q h' (cs + By.room.cells) (sl + By.room.slots) pc' ls (v.toList ++ rest)) : WP l B Z n0 Q h cs sl pc ls st := by
  subst hp
  intro p e s m args below meth c T L C X hT N hn
  obtain ⟨hx, hZ, hown, hby, hml, hret, hlk, hnm⟩ := C
  obtain ⟨v, _, ⟨T1, L1, k1, n1⟩, -, X1, ⟨Lc, hQ, l1, y1, z1⟩, stp⟩ := X.specialBack hx (y := y) hyn hown (mvT hZ w1) (mvT hZ w2) (mvT hZ (hyr ▸ w4)) hy (backOf (W := (rest.map fun v => v.category).sum) (Q := fun v h' L => Qy v h' ∧ Fr n0 L ∧ n0 ≤ h'.size) (hM hn []) hZ w4 w3 hfr hlo) (g := mkF m pc ls st) rfl (by rw [hml]; exact hls) (Steps.refl _) (a := a) (argsL := as) (rest := rest) (lenOf hpd hlen) hst (by show 2 * 0 + _ ≤ _; omega) (hb hby hd) (fun _ _ => ⟨rfl, hT, hc, hs⟩)
  dsimp only [Pt.U, Pt.locs, Pt.cells, Pt.slots] at X1 l1 y1 z1 stp hQ
  subst l1 y1 z1
  obtain ⟨U, v', L', a1, rr⟩ := H v T1.heap hQ.1 p e s m args below meth c T1 _ ⟨hx, hZ, hown, hby, hml, hret, hlk, hnm⟩ X1 rfl (N.app hQ.2.1) hQ.2.2
  exact ⟨U, v', L', stp.trans a1, rr⟩
theorem WP.callV {y z : MethodName} {By : Bod} {Cl : String} {as : List Value} {a : Addr} {idx : Nat} {Qy : Option Value → Heap → Prop} {ps : List FieldType} {r : Option FieldType}
    (hd : decode B.bytes pc = .ok (.invokevirtual idx, 3)) (w1 : (Cond.methodLink B.own idx y).before a0 Z = true) (w2 : (Cond.declares y).before a0 Z = true) (w5 : (Cond.selects Cl y z).before a0 Z = true) (w6 : (Cond.instanceMethod z).before a0 Z = true) (w3 : (Cond.initialized z.cls).before a0 Z = true) (w4 : (Cond.code z By.bytes By.maxL By.ret).before a0 Z = true) (hyz : y = z) (hcl : Cl = y.cls)
    (hy : y.cls ≠ "java/lang/invoke/MethodHandle" ∧ y.cls ≠ "java/lang/invoke/VarHandle") (E : Exa Z h a Cl) (hM : OMet l z By Z n0 (.ref a :: as).toArray h Qy) (hpd : parseMethodDescriptor y.desc = some ⟨ps, r⟩) (hlen : as.length = ps.length) (hst : st = as.reverse ++ .ref a :: rest) (hls : ls.size = B.maxL)
    (hfr : By.room.frames + 1 ≤ B.room.frames) (hlo : (rest.map fun v => v.category).sum + (By.maxL + 11) + By.room.locals ≤ B.room.locals) (hc : cs + By.room.cells ≤ B.room.cells) (hs : sl + By.room.slots ≤ B.room.slots) (hp : pc + 3 = pc')
    (H : ∀ v h', Qy v h' → WP l B Z n0 Q h' (cs + By.room.cells) (sl + By.room.slots) pc' ls (v.toList ++ rest)) : WP l B Z n0 Q h cs sl pc ls st := by
  subst hp hyz hcl
  intro p e s m args below meth c T L C X hT N hn
  obtain ⟨hx, hZ, hown, hby, hml, hret, hlk, hnm⟩ := C
  obtain ⟨cq, kq, qa, qb, qc⟩ := isOf (T := T) hZ hT E
  obtain ⟨v, _, ⟨T1, L1, k1, n1⟩, -, X1, ⟨Lc, hQ, l1, y1, z1⟩, stp⟩ := X.virtualBack hx (y := y) (z := y) hown (mvT hZ w1) (mvT hZ w2) (notFace_of_selects (args := #[]) (mvT hZ w5)) (mvT hZ w5) (mvT hZ w6) hy (backOf (W := (rest.map fun v => v.category).sum) (Q := fun v h' L => Qy v h' ∧ Fr n0 L ∧ n0 ≤ h'.size) (hM hn []) hZ w4 w3 hfr hlo) qa qc (g := mkF m pc ls st) rfl (by rw [hml]; exact hls) (Steps.refl _) (argsL := as) (rest := rest) (lenOf hpd hlen) hst (by show 2 * 0 + _ ≤ _; omega) (hb hby hd) (fun _ _ => ⟨rfl, hT, hc, hs⟩)
  dsimp only [Pt.U, Pt.locs, Pt.cells, Pt.slots] at X1 l1 y1 z1 stp hQ
  subst l1 y1 z1
  obtain ⟨U, v', L', a1, rr⟩ := H v T1.heap hQ.1 p e s m args below meth c T1 _ ⟨hx, hZ, hown, hby, hml, hret, hlk, hnm⟩ X1 rfl (N.app hQ.2.1) hQ.2.2
  exact ⟨U, v', L', stp.trans a1, rr⟩
/-- Object.<init> -/
theorem WP.initO {a : Addr} {idx : Nat} (hd : decode B.bytes pc = .ok (.invokespecial idx, 3)) (w1 : (Cond.methodLink B.own idx Lib.objectInit).before a0 Z = true) (w2 : (Cond.instanceMethod Lib.objectInit).before a0 Z = true) (w3 : (Cond.code Lib.objectInit ⟨#[0xb1]⟩ 1 none).before a0 Z = true) (hls : ls.size = B.maxL) (hf : 1 ≤ B.room.frames) (hl : (rest.map fun v => v.category).sum + 12 ≤ B.room.locals) (hp : pc + 3 = pc')
    (H : WP l B Z n0 Q h cs sl pc' ls rest) : WP l B Z n0 Q h cs sl pc ls (.ref a :: rest) := by
  subst hp
  intro p e s m args below meth c T L C X hT N hn
  obtain ⟨hx, hZ, hown, hby, hml, hret, hlk, hnm⟩ := C
  obtain ⟨T1, X1, e1, stp⟩ := Jvm.RoadKit.initO X hx hZ hown w1 w2 w3 hT (g := mkF m pc ls (.ref a :: rest)) rfl (by rw [hml]; exact hls) rfl (hb hby hd) hf (W := (rest.map fun v => v.category).sum) (by show 2 * 0 + _ ≤ _; omega) hl
  obtain ⟨U, v', L', a1, rr⟩ := H p e s m args below meth c T1 _ ⟨hx, hZ, hown, hby, hml, hret, hlk, hnm⟩ X1 e1 N hn
  exact ⟨U, v', L', stp _ a1, rr⟩
/-! arrays: what one holds, place by place -/
def Av (Z : State) (h : Heap) (a : Addr) (ty : FieldType) (vs : List Value) : Prop := ∃ c : Cell, Arr Z h a c ty ∧ c.slots.toList = vs ∧ vs.length < 2 ^ 31
variable {a b : Addr} {ty : FieldType} {vs : List Value} {h' : Heap} {ws : List Addr}
theorem Av.lt (A : Av Z h a ty vs) : a < h.size := by obtain ⟨c, q, -⟩ := A; exact q.lt
theorem Av.keep (A : Av Z h a ty vs) (K : Keep h h' ws) (q : a ∉ ws) : Av Z h' a ty vs := by obtain ⟨c, A, r⟩ := A; exact ⟨c, ⟨K.2.1 a c A.1 q, A.2⟩, r⟩
theorem Av.len (A : Av Z h a ty vs) : vs.length < 2 ^ 31 := by obtain ⟨c, A, r, q⟩ := A; exact q
theorem own_idx {j : Int32} {i : Nat} (hj : j.toInt = (i : Int)) : j.toNatClampNeg = i ∧ ¬ j < 0 := by
  refine ⟨by simp [Int32.toNatClampNeg, hj], fun q => ?_⟩
  rw [Int32.lt_iff_toInt_lt] at q
  have : (0 : Int32).toInt = 0 := rfl
  omega
theorem Av.place {j : Int32} {i : Nat} {v : Value} {c : Cell} (e : c.slots.toList = vs) (hj : j.toInt = (i : Int)) (hv : vs[i]? = some v) : ¬ (j < 0 ∨ c.slots.size ≤ j.toNatClampNeg) ∧ c.slots[j.toNatClampNeg]? = some v := by
  obtain ⟨q1, q2⟩ := own_idx hj
  subst e
  rw [q1]
  have q3 : c.slots[i]? = some v := by simpa using hv
  refine ⟨fun q => q.elim q2 fun q => ?_, q3⟩
  have := (Array.getElem?_eq_some_iff.mp q3).1
  omega
theorem Keep.of_ext (E : Ext h h') : Keep h h' [] := (Keep.refl h []).ext E
theorem Av.set {i : Nat} {v : Value} {sl : Nat} (A : Av Z h a ty vs) (W : Wr h h' a sl v) (e : sl = i) : Av Z h' a ty (vs.set i v) := by
  subst e
  obtain ⟨c, A, r, q⟩ := A
  refine ⟨_, A.same W, ?_, by simpa using q⟩
  simp [Cell.setSlot, r]
theorem WP.newarr {aty : ArrayType} {n : Int32} {k : Nat} (hd : decode B.bytes pc = .ok (.newarray aty, 2)) (w : (Cond.arrayClass (newarray.typeOf aty)).before a0 Z = true) (hn : n.toInt = (k : Int)) (cap : Nat) (hcap : k ≤ cap) (hbig : cap * 8 ≤ 536870912) (hc : cs + 1 ≤ B.room.cells) (hs : sl + cap ≤ B.room.slots) (hp : pc + 2 = pc')
    (H : ∀ b h', b = h.size → n0 ≤ b → Keep h h' [] → Av Z h' b (newarray.typeOf aty) (List.replicate k (defaultValue (newarray.typeOf aty))) → WP l B Z n0 Q h' (cs + 1) (sl + cap) pc' ls (.ref b :: st)) : WP l B Z n0 Q h cs sl pc ls (.int n :: st) := by
  subst hp
  obtain ⟨q1, q2⟩ := own_idx hn
  refine WP.stepT (P := fun h' => Keep h h' [] ∧ n0 ≤ h.size ∧ Av Z h' h.size (newarray.typeOf aty) (List.replicate k (defaultValue (newarray.typeOf aty)))) ?_ (fun h' q => H h.size h' rfl q.2.1 q.1 q.2.2)
  intro p e s m args below meth c T L C X hT N hn'
  obtain ⟨T1, h1, cA, X1, e1, E1, A1, stp⟩ := newP X C.1 C.2.1 w hT (g := mkF m pc ls (.int n :: st)) rfl (hb C.2.2.2.1 hd) rfl q2 (cap := cap) (by omega) hbig hc hs
  refine ⟨T1, h1, L, X1, e1, N, Nat.le_trans hn' E1.1, ⟨Keep.of_ext E1, hn', _, A1, ?_, ?_⟩, stp⟩
  · simp [newA, q1]
  · simp; omega
theorem WP.alen {k : Int32} (hd : decode B.bytes pc = .ok (.arraylength, 1)) (A : Av Z h a ty vs) (hk : k.toInt = (vs.length : Int)) (hp : pc + 1 = pc') (H : WP l B Z n0 Q h cs sl pc' ls (.int k :: st)) : WP l B Z n0 Q h cs sl pc ls (.ref a :: st) := by
  subst hp
  obtain ⟨cl, A, r, q⟩ := A
  have e1 : cl.slots.size.toInt32 = k := by
    have e2 : cl.slots.size = vs.length := by rw [← r]; simp
    apply Int32.toInt_inj.mp
    rw [e2, hk]
    exact Int32.toInt_ofNat_of_lt q
  exact WP.step (fun p e s m args below meth c T L C X hT target k' => X.arraylength C.1 (by rw [hT]; exact A.1) (State.isArrayOf_alike C.2.1.alike A.2.1) (g := mkF m pc ls (.ref a :: st)) rfl rfl (hb C.2.2.2.1 hd) _ (by rw [e1]; exact k')) H
theorem WP.iaload {j : Int32} {x : Int32} (i : Nat) (hd : decode B.bytes pc = .ok (.iaload, 1)) (A : Av Z h a .int vs) (hj : j.toInt = (i : Int)) (hv : vs[i]? = some (.int x)) (hp : pc + 1 = pc') (H : WP l B Z n0 Q h cs sl pc' ls (.int x :: st)) : WP l B Z n0 Q h cs sl pc ls (.int j :: .ref a :: st) := by
  subst hp
  obtain ⟨cl, A, r, q⟩ := A
  obtain ⟨g1, g2⟩ := Av.place r hj hv
  exact WP.step (fun p e s m args below meth c T L C X hT target k' => X.iaload C.1 (by rw [hT]; exact A.1) (State.isArrayOf_alike C.2.1.alike A.2.1) A.2.2 g1 g2 (g := mkF m pc ls (.int j :: .ref a :: st)) rfl rfl (hb C.2.2.2.1 hd) _ k') H
theorem WP.laload {j : Int32} {x : Int64} (i : Nat) (hd : decode B.bytes pc = .ok (.laload, 1)) (A : Av Z h a .long vs) (hj : j.toInt = (i : Int)) (hv : vs[i]? = some (.long x)) (hp : pc + 1 = pc') (H : WP l B Z n0 Q h cs sl pc' ls (.long x :: st)) : WP l B Z n0 Q h cs sl pc ls (.int j :: .ref a :: st) := by
  subst hp
  obtain ⟨cl, A, r, q⟩ := A
  obtain ⟨g1, g2⟩ := Av.place r hj hv
  exact WP.step (fun p e s m args below meth c T L C X hT target k' => X.laload C.1 (by rw [hT]; exact A.1) (State.isArrayOf_alike C.2.1.alike A.2.1) A.2.2 g1 g2 (g := mkF m pc ls (.int j :: .ref a :: st)) rfl rfl (hb C.2.2.2.1 hd) _ k') H
theorem WP.caload {j : Int32} {x : Int32} (i : Nat) (hd : decode B.bytes pc = .ok (.caload, 1)) (A : Av Z h a .char vs) (hj : j.toInt = (i : Int)) (hv : vs[i]? = some (.int x)) (hp : pc + 1 = pc') (H : WP l B Z n0 Q h cs sl pc' ls (.int x :: st)) : WP l B Z n0 Q h cs sl pc ls (.int j :: .ref a :: st) := by
  subst hp
  obtain ⟨cl, A, r, q⟩ := A
  obtain ⟨g1, g2⟩ := Av.place r hj hv
  exact WP.step (fun p e s m args below meth c T L C X hT target k' => X.caload C.1 (by rw [hT]; exact A.1) (State.isArrayOf_alike C.2.1.alike A.2.1) A.2.2 g1 g2 (g := mkF m pc ls (.int j :: .ref a :: st)) rfl rfl (hb C.2.2.2.1 hd) _ k') H
theorem WP.baloadB {j : Int32} {x : Int32} (i : Nat) (hd : decode B.bytes pc = .ok (.baload, 1)) (A : Av Z h a .byte vs) (hj : j.toInt = (i : Int)) (hv : vs[i]? = some (.int x)) (hp : pc + 1 = pc') (H : WP l B Z n0 Q h cs sl pc' ls (.int x :: st)) : WP l B Z n0 Q h cs sl pc ls (.int j :: .ref a :: st) := by
  subst hp
  obtain ⟨cl, A, r, q⟩ := A
  obtain ⟨g1, g2⟩ := Av.place r hj hv
  exact WP.step (fun p e s m args below meth c T L C X hT target k' => X.baloadBytes C.1 (by rw [hT]; exact A.1) (State.isArrayOf_alike C.2.1.alike A.2.1) A.2.2 g1 g2 (g := mkF m pc ls (.int j :: .ref a :: st)) rfl rfl (hb C.2.2.2.1 hd) _ k') H
theorem WP.baloadZ {j : Int32} {x : Int32} (i : Nat) (hd : decode B.bytes pc = .ok (.baload, 1)) (A : Av Z h a .boolean vs) (hj : j.toInt = (i : Int)) (hv : vs[i]? = some (.int x)) (hp : pc + 1 = pc') (H : WP l B Z n0 Q h cs sl pc' ls (.int x :: st)) : WP l B Z n0 Q h cs sl pc ls (.int j :: .ref a :: st) := by
  subst hp
  obtain ⟨cl, A, r, q⟩ := A
  obtain ⟨g1, g2⟩ := Av.place r hj hv
  exact WP.step (fun p e s m args below meth c T L C X hT target k' => X.baloadBooleans C.1 (by rw [hT]; exact A.1) (State.isArrayOf_alike C.2.1.alike A.2.1) A.2.2 g1 g2 (g := mkF m pc ls (.int j :: .ref a :: st)) rfl rfl (hb C.2.2.2.1 hd) _ k') H
theorem WP.aaload {j : Int32} {x : Value} (i : Nat) (hd : decode B.bytes pc = .ok (.aaload, 1)) (A : Av Z h a ty vs) (hty : ty.isReference = true) (hj : j.toInt = (i : Int)) (hv : vs[i]? = some x) (hp : pc + 1 = pc') (H : WP l B Z n0 Q h cs sl pc' ls (x :: st)) : WP l B Z n0 Q h cs sl pc ls (.int j :: .ref a :: st) := by
  subst hp
  obtain ⟨cl, A, r, q⟩ := A
  obtain ⟨g1, g2⟩ := Av.place r hj hv
  exact WP.step (fun p e s m args below meth c T L C X hT target k' => X.aaload C.1 (by rw [hT]; exact A.1) (State.isArrayOf_alike C.2.1.alike A.2.1) hty A.2.2 g1 g2 (g := mkF m pc ls (.int j :: .ref a :: st)) rfl rfl (hb C.2.2.2.1 hd) _ k') H
theorem WP.iastore {j : Int32} {x : Int32} (i : Nat) (hd : decode B.bytes pc = .ok (.iastore, 1)) (A : Av Z h a .int vs) (hj : j.toInt = (i : Int)) (hi : i < vs.length) (ha : n0 ≤ a) (hp : pc + 1 = pc') (H : ∀ h', Keep h h' [a] → Av Z h' a .int (vs.set i (.int x)) → WP l B Z n0 Q h' cs sl pc' ls st) : WP l B Z n0 Q h cs sl pc ls (.int x :: .int j :: .ref a :: st) := by
  subst hp
  obtain ⟨cl, Ar, r, q⟩ := id A
  obtain ⟨g1, -⟩ := Av.place r hj (List.getElem?_eq_getElem hi)
  refine WP.stepT (P := fun h' => Keep h h' [a] ∧ Av Z h' a .int (vs.set i (.int x))) ?_ (fun h' q => H h' q.1 q.2)
  intro p e s m args below meth c T L C X hT N hn'
  obtain ⟨T1, h1, X1, e1, W1, stp⟩ := stI X C.1 C.2.1 hT Ar g1 (g := mkF m pc ls (.int x :: .int j :: .ref a :: st)) rfl rfl (hb C.2.2.2.1 hd)
  exact ⟨T1, h1, _, X1, e1, Fr.snoc X1 N ha, by rw [W1.size]; exact hn', ⟨Keep.of_wr W1, A.set W1 (own_idx hj).1⟩, stp⟩
theorem WP.lastore {j : Int32} {x : Int64} (i : Nat) (hd : decode B.bytes pc = .ok (.lastore, 1)) (A : Av Z h a .long vs) (hj : j.toInt = (i : Int)) (hi : i < vs.length) (ha : n0 ≤ a) (hp : pc + 1 = pc') (H : ∀ h', Keep h h' [a] → Av Z h' a .long (vs.set i (.long x)) → WP l B Z n0 Q h' cs sl pc' ls st) : WP l B Z n0 Q h cs sl pc ls (.long x :: .int j :: .ref a :: st) := by
  subst hp
  obtain ⟨cl, Ar, r, q⟩ := id A
  obtain ⟨g1, -⟩ := Av.place r hj (List.getElem?_eq_getElem hi)
  refine WP.stepT (P := fun h' => Keep h h' [a] ∧ Av Z h' a .long (vs.set i (.long x))) ?_ (fun h' q => H h' q.1 q.2)
  intro p e s m args below meth c T L C X hT N hn'
  obtain ⟨T1, h1, X1, e1, W1, stp⟩ := stJ X C.1 C.2.1 hT Ar g1 (g := mkF m pc ls (.long x :: .int j :: .ref a :: st)) rfl rfl (hb C.2.2.2.1 hd)
  exact ⟨T1, h1, _, X1, e1, Fr.snoc X1 N ha, by rw [W1.size]; exact hn', ⟨Keep.of_wr W1, A.set W1 (own_idx hj).1⟩, stp⟩
theorem WP.castore {j : Int32} {x : Int32} (i : Nat) (hd : decode B.bytes pc = .ok (.castore, 1)) (A : Av Z h a .char vs) (hj : j.toInt = (i : Int)) (hi : i < vs.length) (ha : n0 ≤ a) (hp : pc + 1 = pc') (H : ∀ h', Keep h h' [a] → Av Z h' a .char (vs.set i (.int (nar .char x))) → WP l B Z n0 Q h' cs sl pc' ls st) : WP l B Z n0 Q h cs sl pc ls (.int x :: .int j :: .ref a :: st) := by
  subst hp
  obtain ⟨cl, Ar, r, q⟩ := id A
  obtain ⟨g1, -⟩ := Av.place r hj (List.getElem?_eq_getElem hi)
  refine WP.stepT (P := fun h' => Keep h h' [a] ∧ Av Z h' a .char (vs.set i (.int (nar .char x)))) ?_ (fun h' q => H h' q.1 q.2)
  intro p e s m args below meth c T L C X hT N hn'
  obtain ⟨T1, h1, X1, e1, W1, stp⟩ := stC X C.1 C.2.1 hT Ar g1 (g := mkF m pc ls (.int x :: .int j :: .ref a :: st)) rfl rfl (hb C.2.2.2.1 hd)
  exact ⟨T1, h1, _, X1, e1, Fr.snoc X1 N ha, by rw [W1.size]; exact hn', ⟨Keep.of_wr W1, A.set W1 (own_idx hj).1⟩, stp⟩
theorem WP.bastoreB {j : Int32} {x : Int32} (i : Nat) (hd : decode B.bytes pc = .ok (.bastore, 1)) (A : Av Z h a .byte vs) (hj : j.toInt = (i : Int)) (hi : i < vs.length) (ha : n0 ≤ a) (hp : pc + 1 = pc') (H : ∀ h', Keep h h' [a] → Av Z h' a .byte (vs.set i (.int (nar .byte x))) → WP l B Z n0 Q h' cs sl pc' ls st) : WP l B Z n0 Q h cs sl pc ls (.int x :: .int j :: .ref a :: st) := by
  subst hp
  obtain ⟨cl, Ar, r, q⟩ := id A
  obtain ⟨g1, -⟩ := Av.place r hj (List.getElem?_eq_getElem hi)
  refine WP.stepT (P := fun h' => Keep h h' [a] ∧ Av Z h' a .byte (vs.set i (.int (nar .byte x)))) ?_ (fun h' q => H h' q.1 q.2)
  intro p e s m args below meth c T L C X hT N hn'
  obtain ⟨T1, h1, X1, e1, W1, stp⟩ := stB X C.1 C.2.1 hT Ar g1 (g := mkF m pc ls (.int x :: .int j :: .ref a :: st)) rfl rfl (hb C.2.2.2.1 hd)
  exact ⟨T1, h1, _, X1, e1, Fr.snoc X1 N ha, by rw [W1.size]; exact hn', ⟨Keep.of_wr W1, A.set W1 (own_idx hj).1⟩, stp⟩
theorem WP.bastoreZ {j : Int32} {x : Int32} (i : Nat) (hd : decode B.bytes pc = .ok (.bastore, 1)) (A : Av Z h a .boolean vs) (hj : j.toInt = (i : Int)) (hi : i < vs.length) (ha : n0 ≤ a) (hp : pc + 1 = pc') (H : ∀ h', Keep h h' [a] → Av Z h' a .boolean (vs.set i (.int (nar .boolean x))) → WP l B Z n0 Q h' cs sl pc' ls st) : WP l B Z n0 Q h cs sl pc ls (.int x :: .int j :: .ref a :: st) := by
  subst hp
  obtain ⟨cl, Ar, r, q⟩ := id A
  obtain ⟨g1, -⟩ := Av.place r hj (List.getElem?_eq_getElem hi)
  refine WP.stepT (P := fun h' => Keep h h' [a] ∧ Av Z h' a .boolean (vs.set i (.int (nar .boolean x)))) ?_ (fun h' q => H h' q.1 q.2)
  intro p e s m args below meth c T L C X hT N hn'
  obtain ⟨T1, h1, X1, e1, W1, stp⟩ := stZ X C.1 C.2.1 hT Ar g1 (g := mkF m pc ls (.int x :: .int j :: .ref a :: st)) rfl rfl (hb C.2.2.2.1 hd)
  exact ⟨T1, h1, _, X1, e1, Fr.snoc X1 N ha, by rw [W1.size]; exact hn', ⟨Keep.of_wr W1, A.set W1 (own_idx hj).1⟩, stp⟩
/-! objects: the fields that the sheet lays, in one list -/
abbrev OLay : Type := List (String × String × String)
def Ob (Z : State) (h : Heap) (a : Addr) (C : String) (lay : OLay) (vs : List Value) : Prop := Exa Z h a C ∧ lay.length = vs.length ∧ ∀ (i : Nat) (O n d : String) (v : Value), lay[i]? = some (O, n, d) → vs[i]? = some v → Fld Z h a O n d v
def OLaids (Z : State) (a0 : Array Value) (C : String) (lay : OLay) : Prop := ∀ q ∈ lay, Laid Z a0 C q.1 q.2.1 q.2.2 ∧ ∃ t, parseFieldDescriptor q.2.2 = some t
variable {Cl O n d : String} {lay : OLay} {v : Value}
theorem Ob.lt (A : Ob Z h a Cl lay vs) : a < h.size := A.1.lt
theorem Ob.keep (A : Ob Z h a Cl lay vs) (K : Keep h h' ws) (q : a ∉ ws) : Ob Z h' a Cl lay vs := ⟨A.1.keep K, A.2.1, fun i O n d v h1 h2 => (A.2.2 i O n d v h1 h2).keep K q⟩
theorem Ob.fld (A : Ob Z h a Cl lay vs) (i : Nat) (h1 : lay[i]? = some (O, n, d)) (h2 : vs[i]? = some v) : Fld Z h a O n d v := A.2.2 i O n d v h1 h2
theorem Ob.put {i : Nat} (A : Ob Z h a Cl lay vs) (La : OLaids Z a0 Cl lay) (hnd : (lay.map fun q => q.2.1).Nodup) (h1 : lay[i]? = some (O, n, d)) (W : Wr h h' a (Jvm.RoadKit.slotOf Z O n d) v) : Ob Z h' a Cl lay (vs.set i v) := by
  refine ⟨A.1.wr W, by simpa using A.2.1, fun j O' n' d' v' g1 g2 => ?_⟩
  by_cases e : i = j
  · subst e
    cases h1.symm.trans g1
    have hi : i < vs.length := by rw [← A.2.1]; exact (List.getElem?_eq_some_iff.mp h1).1
    rw [List.getElem?_set_self hi] at g2
    cases g2
    exact (A.fld i h1 (List.getElem?_eq_getElem hi)).same W
  · rw [List.getElem?_set_ne e] at g2
    refine (A.fld j g1 g2).other W (Or.inr ?_)
    obtain ⟨l1, t1, p1⟩ := La _ (List.mem_of_getElem? g1)
    obtain ⟨l2, t2, p2⟩ := La _ (List.mem_of_getElem? h1)
    refine slot_ne l1 l2 (fun q => ?_) p1 p2
    have k1 : (lay.map fun q => q.2.1)[j]? = some n' := by simp [g1]
    have k2 : (lay.map fun q => q.2.1)[i]? = some n := by simp [h1]
    obtain ⟨m1, f1⟩ := List.getElem?_eq_some_iff.mp k1
    obtain ⟨m2, f2⟩ := List.getElem?_eq_some_iff.mp k2
    have pw := List.pairwise_iff_getElem.mp hnd
    rcases Nat.lt_or_gt_of_ne e with c | c
    · exact pw i j m2 m1 c (f2.trans ((show n = n' from q.symm).trans f1.symm))
    · exact pw j i m1 m2 c (f1.trans ((show n' = n from q).trans f2.symm))
theorem WP.getf {idx i : Nat} (hd : decode B.bytes pc = .ok (.getfield idx, 3)) (w : (Cond.fieldLink B.own idx O n d).before a0 Z = true) (A : Ob Z h a Cl lay vs) (h1 : lay[i]? = some (O, n, d)) (h2 : vs[i]? = some v) (hp : pc + 3 = pc') (H : WP l B Z n0 Q h cs sl pc' ls (v :: st)) : WP l B Z n0 Q h cs sl pc ls (.ref a :: st) := by
  subst hp
  intro p e s m args below meth c T L C X hT N hn
  obtain ⟨T1, X1, e1, stp⟩ := getF X C.1 C.2.1 C.2.2.1 (host := "") (Or.inl w) Via.refl hT (A.fld i h1 h2) (g := mkF m pc ls (.ref a :: st)) rfl rfl (hb C.2.2.2.1 hd)
  obtain ⟨U, v', L', a1, rr⟩ := H p e s m args below meth c T1 _ C X1 e1 N hn
  exact ⟨U, v', L', stp _ a1, rr⟩
theorem WP.putf {idx i kk : Nat} {t : FieldType} (hd : decode B.bytes pc = .ok (.putfield idx, 3)) (w : (Cond.fieldLink B.own idx O n d).before a0 Z = true) (A : Ob Z h a Cl lay vs) (La : OLaids Z a0 Cl lay) (hnd : (lay.map fun q => q.2.1).Nodup) (h1 : lay[i]? = some (O, n, d))
    (hL : (Cond.lays Cl O n d).before a0 Z = true ∨ ((Cond.laysFinal Cl O n d).before a0 Z = true ∧ B.own = O ∧ B.mname = "<init>")) (wi : (Cond.instantiable Cl kk).before a0 Z = true) (ht : parseFieldDescriptor d = some t) (hnw : narrow t v = v) (hf : fits t v = true) (ha : n0 ≤ a) (hp : pc + 3 = pc')
    (H : ∀ h', Keep h h' [a] → Ob Z h' a Cl lay (vs.set i v) → WP l B Z n0 Q h' cs sl pc' ls st) : WP l B Z n0 Q h cs sl pc ls (v :: .ref a :: st) := by
  subst hp
  have hi : i < vs.length := by rw [← A.2.1]; exact (List.getElem?_eq_some_iff.mp h1).1
  refine WP.stepT (P := fun h' => Keep h h' [a] ∧ Ob Z h' a Cl lay (vs.set i v)) ?_ (fun h' q => H h' q.1 q.2)
  intro p e s m args below meth c T L C X hT N hn'
  obtain ⟨T1, h2, X1, e1, W1, stp⟩ := putF X C.1 C.2.1 C.2.2.1 (host := "") (Or.inl w) Via.refl hT (A.fld i h1 (List.getElem?_eq_getElem hi)) A.1 (hL.imp id fun q => ⟨q.1, q.2.1, C.2.2.2.2.2.2.2.trans q.2.2⟩) wi ht hnw hf (g := mkF m pc ls (v :: .ref a :: st)) rfl rfl (hb C.2.2.2.1 hd)
  exact ⟨T1, h2, _, X1, e1, Fr.snoc X1 N ha, by rw [W1.size]; exact hn', ⟨Keep.of_wr W1, A.put La hnd h1 W1⟩, stp⟩
theorem WP.newobj {idx k : Nat} (hd : decode B.bytes pc = .ok (.new idx, 3)) (w : (Cond.classLink B.own idx Cl).before a0 Z = true) (wi : (Cond.instantiable Cl k).before a0 Z = true) (wz : (Cond.initialized Cl).before a0 Z = true) (La : OLaids Z a0 Cl lay) (hvs : lay.map (fun q => (parseFieldDescriptor q.2.2).map defaultValue) = vs.map some) (hc : cs + 1 ≤ B.room.cells) (hs : sl + k ≤ B.room.slots) (hp : pc + 3 = pc')
    (H : ∀ b h', b = h.size → n0 ≤ b → Keep h h' [] → Ob Z h' b Cl lay vs → WP l B Z n0 Q h' (cs + 1) (sl + k) pc' ls (.ref b :: st)) : WP l B Z n0 Q h cs sl pc ls st := by
  subst hp
  refine WP.stepT (P := fun h' => Keep h h' [] ∧ n0 ≤ h.size ∧ Ob Z h' h.size Cl lay vs) ?_ (fun h' q => H h.size h' rfl q.2.1 q.1 q.2.2)
  intro p e s m args below meth c T L C X hT N hn'
  obtain ⟨T1, h1, X1, e1, E1, A1, D1, -, stp⟩ := newO X C.1 C.2.1 C.2.2.1 w wi wz hT (g := mkF m pc ls st) rfl (hb C.2.2.2.1 hd) hc hs
  refine ⟨T1, h1, L, X1, e1, N, Nat.le_trans hn' E1.1, ⟨Keep.of_ext E1, hn', A1, by simpa using congrArg List.length hvs, fun i O n d v g1 g2 => ?_⟩, stp⟩
  obtain ⟨l1, t1, p1⟩ := La _ (List.mem_of_getElem? g1)
  have k1 := congrArg (fun z => z[i]?) hvs
  simp only [List.getElem?_map, g1, g2, Option.map_some] at k1
  rw [show parseFieldDescriptor d = some t1 from p1] at k1
  simp only [Option.map_some, Option.some.injEq] at k1
  rw [← k1]
  exact D1 l1 p1
end W
end Jvm.OwnWP
namespace Jvm.OwnWP
open Sem ClassFile Op Lib Jvm.RoadKit
theorem own_r32 (x : Int32) : -2147483648 ≤ x.toInt ∧ x.toInt < 2147483648 := ⟨x.le_toInt, x.toInt_lt⟩
theorem own_r64 (x : Int64) : -9223372036854775808 ≤ x.toInt ∧ x.toInt < 9223372036854775808 := ⟨x.le_toInt, x.toInt_lt⟩
theorem own_iadd {x y : Int32} (h1 : -2147483648 ≤ x.toInt + y.toInt) (h2 : x.toInt + y.toInt < 2147483648) : (x + y).toInt = x.toInt + y.toInt := by have := c_iadd x y; have := own_r32 (x + y); omega
theorem own_isub {x y : Int32} (h1 : -2147483648 ≤ x.toInt - y.toInt) (h2 : x.toInt - y.toInt < 2147483648) : (x - y).toInt = x.toInt - y.toInt := by have := c_isub x y; have := own_r32 (x - y); omega
theorem own_ladd {x y : Int64} (h1 : -9223372036854775808 ≤ x.toInt + y.toInt) (h2 : x.toInt + y.toInt < 9223372036854775808) : (x + y).toInt = x.toInt + y.toInt := by have := c_ladd x y; have := own_r64 (x + y); omega
theorem own_lsub {x y : Int64} (h1 : -9223372036854775808 ≤ x.toInt - y.toInt) (h2 : x.toInt - y.toInt < 9223372036854775808) : (x - y).toInt = x.toInt - y.toInt := by have := c_lsub x y; have := own_r64 (x - y); omega
theorem own_mask (x m : Int32) (k : Nat) (P : Int) (hk : k ≤ 31) (hm : m.toBitVec.toNat = 2 ^ k - 1) (hP : ((2 ^ k : Nat) : Int) = P) : (x &&& m).toInt = x.toInt % P := by rw [← hP]; exact c_mask x m k hk hm
theorem own_maskL (x m : Int64) (k : Nat) (P : Int) (hk : k ≤ 63) (hm : m.toBitVec.toNat = 2 ^ k - 1) (hP : ((2 ^ k : Nat) : Int) = P) : (x &&& m).toInt = x.toInt % P := by rw [← hP]; exact c_maskL x m k hk hm
theorem own_irem {x y : Int32} {d : Int} (hy : y.toInt = d) (h0 : 0 ≤ x.toInt) : (x % y).toInt = x.toInt % d := (c_irem x y d hy).1 h0
theorem own_ushr (x q : Int32) (k : Nat) (P : Int) (hk : q.toBitVec.toNat % 32 = k) (h0 : 0 < k) (hP : ((2 ^ k : Nat) : Int) = P) : (ushr x q).toInt = (x.toInt % 4294967296) / P := by rw [← hP]; exact c_iushr x q k hk h0
theorem own_ishr (x q : Int32) (k : Nat) (P : Int) (hk : q.toBitVec.toNat % 32 = k) (hP : ((2 ^ k : Nat) : Int) = P) : (x >>> (q &&& 31)).toInt = x.toInt / P := by rw [← hP]; exact c_ishr x q k hk
theorem own_nar1 : nar .boolean 1 = 1 := by decide
theorem own_nar0 : nar .boolean 0 = 0 := by decide
theorem own_q1 : (some (Value.int (nar .boolean 1))) = some (Value.int 1) := congrArg (fun z => some (Value.int z)) own_nar1
theorem own_q0 : (some (Value.int (nar .boolean 0))) = some (Value.int 0) := congrArg (fun z => some (Value.int z)) own_nar0
theorem own_e32 {x y : Int32} (h : x.toInt = y.toInt) : x = y := Int32.toInt_inj.mp h
theorem own_e64 {x y : Int64} (h : x.toInt = y.toInt) : x = y := Int64.toInt_inj.mp h
end Jvm.OwnWP
namespace Jvm.OwnWP
theorem own_getI (xs : List Int32) (i : Nat) (h : i < xs.length) : ∃ y, (xs.map Value.int)[i]? = some (Value.int y) := ⟨xs[i], by simp [h]⟩
theorem own_getJ (xs : List Int64) (i : Nat) (h : i < xs.length) : ∃ y, (xs.map Value.long)[i]? = some (Value.long y) := ⟨xs[i], by simp [h]⟩
end Jvm.OwnWP
namespace Jvm.OwnWP
theorem own_nil {a : Addr} : a ∉ ([] : List Addr) := nofun
theorem own_cons {a b : Addr} {ws : List Addr} (h : a ≠ b) (h' : a ∉ ws) : a ∉ b :: ws := fun q => (List.mem_cons.mp q).elim h h'
end Jvm.OwnWP
namespace Jvm.OwnWP
theorem own_all0 {P : Addr → Prop} : ∀ x ∈ ([] : List Addr), P x := fun _ q => nomatch q
theorem own_all {P : Addr → Prop} {a : Addr} {ws : List Addr} (h : P a) (h' : ∀ x ∈ ws, P x) : ∀ x ∈ a :: ws, P x := fun x q => (List.mem_cons.mp q).elim (fun e => e ▸ h) (h' x)
end Jvm.OwnWP
namespace Jvm.OwnWP
open Sem ClassFile Op Lib Jvm.Stand Jvm.Free Jvm.LawKit Jvm.RoadKit
def own_fill : List Value → List Slot
  | [] => []
  | v :: r => if v.category = 2 then .val v :: .second :: own_fill r else .val v :: own_fill r
def own_push (acc : Array Slot) (v : Value) : Array Slot := if v.category = 2 then (acc.push (Slot.val v)).push Slot.second else acc.push (Slot.val v)
theorem own_fold (as : List Value) (acc : Array Slot) : as.foldl own_push acc = acc ++ (own_fill as).toArray := by
  induction as generalizing acc with
  | nil => simp [own_fill]
  | cons v r ih =>
    simp only [List.foldl_cons, own_fill]
    rw [ih]
    unfold own_push
    split <;> simp
theorem own_entry {m : MethodId} {as : List Value} {n : Nat} {fs : List Slot} (k : Nat) (h1 : own_fill as = fs) (h2 : fs.length + k = n) : entryFrame m as.toArray n = mkF m 0 (fs ++ List.replicate k Slot.unset).toArray [] := by
  subst h1 h2
  have e0 : as.toArray.foldl own_push #[] = (own_fill as).toArray := by
    simp only [List.size_toArray, List.foldl_toArray']
    rw [own_fold]; simp
  have e : argsToLocals as.toArray ((own_fill as).length + k) = (own_fill as ++ List.replicate k Slot.unset).toArray := by
    show as.toArray.foldl own_push #[] ++ Array.replicate ((own_fill as).length + k - (as.toArray.foldl own_push #[]).size) Slot.unset = _
    rw [e0]
    simp
  show ({ method := m, pc := 0, locals := argsToLocals as.toArray ((own_fill as).length + k), stack := [], locked := none } : JFrame) = _
  rw [e]
end Jvm.OwnWP
namespace Jvm.OwnWP
theorem own_nz {y : Int32} (h : y.toInt ≠ 0) : y ≠ 0 := fun q => h (by rw [q]; rfl)
theorem own_nzL {y : Int64} (h : y.toInt ≠ 0) : y ≠ 0 := fun q => h (by rw [q]; rfl)
end Jvm.OwnWP
namespace Jvm.OwnWP
open Sem ClassFile Op Lib Jvm.Stand Jvm.Free Jvm.LawKit Jvm.RoadKit
section W
variable {l : Launch} {B : Bod} {Z : State} {n0 : Nat} {Q : Option Value → Heap → Prop} {h : Heap} {cs sl pc pc' : Nat} {ls ls' : Array Slot} {st rest : List Value} {a0 : Array Value}
/-- a private method by invokevirtual; that its class is no interface is read off another 'selects' word of that class -/
theorem WP.callP {y y0 : MethodName} {By : Bod} {Cl : String} {as : List Value} {a : Addr} {idx : Nat} {Qy : Option Value → Heap → Prop} {ps : List FieldType} {r : Option FieldType}
    (hd : decode B.bytes pc = .ok (.invokevirtual idx, 3)) (w1 : (Cond.methodLink B.own idx y).before a0 Z = true) (w2 : (Cond.instanceMethod y).before a0 Z = true) (w5 : (Cond.privateMethod y).before a0 Z = true) (w6 : (Cond.selects Cl y0 y0).before a0 Z = true) (w3 : (Cond.initialized y.cls).before a0 Z = true) (w4 : (Cond.code y By.bytes By.maxL By.ret).before a0 Z = true) (hcl : y0.cls = y.cls)
    (hy : y.cls ≠ "java/lang/invoke/MethodHandle" ∧ y.cls ≠ "java/lang/invoke/VarHandle") {Ce : String} (E : Exa Z h a Ce) (hM : OMet l y By Z n0 (.ref a :: as).toArray h Qy) (hpd : parseMethodDescriptor y.desc = some ⟨ps, r⟩) (hlen : as.length = ps.length) (hst : st = as.reverse ++ .ref a :: rest) (hls : ls.size = B.maxL)
    (hfr : By.room.frames + 1 ≤ B.room.frames) (hlo : (rest.map fun v => v.category).sum + (By.maxL + 11) + By.room.locals ≤ B.room.locals) (hc : cs + By.room.cells ≤ B.room.cells) (hs : sl + By.room.slots ≤ B.room.slots) (hp : pc + 3 = pc')
    (H : ∀ v h', Qy v h' → WP l B Z n0 Q h' (cs + By.room.cells) (sl + By.room.slots) pc' ls (v.toList ++ rest)) : WP l B Z n0 Q h cs sl pc ls st := by
  subst hp
  intro p e s m args below meth c T L C X hT N hn
  obtain ⟨hx, hZ, hown, hby, hml, hret, hlk, hnm⟩ := C
  obtain ⟨cq, q1, q2⟩ := E.cell
  have hpr : s.PrivateAt y := Cond.privateMethod_at (mvP hZ w5 (args := #[]))
  have hsel : (Cond.selects y.cls y y).before args s = true := by
    obtain ⟨c2, r2, m2, -, -, q3, -, kP, hkP, hkPi⟩ := Cond.selects_spec (mvT (args := args) hZ w6)
    have hc2 := findClass_of_methodNamed q3
    rw [hcl] at hc2
    exact selects_self_of_private hc2 hkP hkPi hpr (mvT hZ w2) hy
  obtain ⟨v, _, ⟨T1, L1, k1, n1⟩, -, X1, ⟨Lc, hQ, l1, y1, z1⟩, stp⟩ := X.privateBack hx (y := y) hown (mvT hZ w1) (mvT hZ w2) hsel hpr (mvT hZ w4) hy (backOf (W := (rest.map fun v => v.category).sum) (Q := fun v h' L => Qy v h' ∧ Fr n0 L ∧ n0 ≤ h'.size) (hM hn []) hZ w4 w3 hfr hlo) (g := mkF m pc ls st) rfl (by rw [hml]; exact hls) (Steps.refl _) (a := a) (cell := cq) (by rw [hT]; exact q1) q2 (argsL := as) (rest := rest) (lenOf hpd hlen) hst (by show 2 * 0 + _ ≤ _; omega) (hb hby hd) (fun _ _ => ⟨rfl, hT, hc, hs⟩)
  dsimp only [Pt.U, Pt.locs, Pt.cells, Pt.slots] at X1 l1 y1 z1 stp hQ
  subst l1 y1 z1
  obtain ⟨U, v', L', a1, rr⟩ := H v T1.heap hQ.1 p e s m args below meth c T1 _ ⟨hx, hZ, hown, hby, hml, hret, hlk, hnm⟩ X1 rfl (N.app hQ.2.1) hQ.2.2
  exact ⟨U, v', L', stp.trans a1, rr⟩
end W
end Jvm.OwnWP


namespace Jvm.Pilot.@@N@@
open Jvm Jvm.ClassFile Sem Op Lib Jvm.Free Jvm.Stand Jvm.LawKit Jvm.RoadKit Jvm.OwnWP Bundle Jvm.Pilot.@@N@@.Jvm.D

abbrev HW (Z : State) (a0 : Array Value) : Prop := ∀ d ∈ tables_1, d.before a0 Z = true
theorem w0 {Z : State} {a0 : Array Value} (hw : HW Z a0) : ((Jvm.Cond.constantLong "com/example/apportion/apportion/IdleTimelineRunLengthPinLaw" (9 : Nat) (9223372036854775807 : Int64))).before a0 Z = true := hw _ (List.mem_of_getElem? (i := 0) rfl)
theorem w1 {Z : State} {a0 : Array Value} (hw : HW Z a0) : ((Jvm.Cond.methodLink "com/example/apportion/apportion/IdleTimelineRunLengthPinLaw" (11 : Nat) ({ cls := "com/example/apportion/apportion/IdleTimeline", name := "runLength", desc := "(J)C" } : Jvm.MethodName))).before a0 Z = true := hw _ (List.mem_of_getElem? (i := 1) rfl)
theorem w2 {Z : State} {a0 : Array Value} (hw : HW Z a0) : ((Jvm.Cond.static ({ cls := "com/example/apportion/apportion/IdleTimeline", name := "runLength", desc := "(J)C" } : Jvm.MethodName))).before a0 Z = true := hw _ (List.mem_of_getElem? (i := 2) rfl)
theorem w3 {Z : State} {a0 : Array Value} (hw : HW Z a0) : ((Jvm.Cond.initialized "com/example/apportion/apportion/IdleTimeline")).before a0 Z = true := hw _ (List.mem_of_getElem? (i := 3) rfl)
theorem w4 {Z : State} {a0 : Array Value} (hw : HW Z a0) : ((Jvm.Cond.code ({ cls := "com/example/apportion/apportion/IdleTimeline", name := "runLength", desc := "(J)C" } : Jvm.MethodName) prog_99_method_42_code (5 : Nat) (Option.some Jvm.ClassFile.FieldType.char))).before a0 Z = true := hw _ (List.mem_of_getElem? (i := 4) rfl)
theorem w5 {Z : State} {a0 : Array Value} (hw : HW Z a0) : ((Jvm.Cond.constantLong "com/example/apportion/apportion/IdleTimeline" (370 : Nat) (4611686018427387904 : Int64))).before a0 Z = true := hw _ (List.mem_of_getElem? (i := 5) rfl)
theorem w6 {Z : State} {a0 : Array Value} (hw : HW Z a0) : ((Jvm.Cond.methodLink "com/example/apportion/apportion/IdleTimeline" (372 : Nat) ({ cls := "java/lang/Long", name := "numberOfLeadingZeros", desc := "(J)I" } : Jvm.MethodName))).before a0 Z = true := hw _ (List.mem_of_getElem? (i := 6) rfl)
theorem w7 {Z : State} {a0 : Array Value} (hw : HW Z a0) : ((Jvm.Cond.static ({ cls := "java/lang/Long", name := "numberOfLeadingZeros", desc := "(J)I" } : Jvm.MethodName))).before a0 Z = true := hw _ (List.mem_of_getElem? (i := 7) rfl)
theorem w8 {Z : State} {a0 : Array Value} (hw : HW Z a0) : ((Jvm.Cond.initialized "java/lang/Long")).before a0 Z = true := hw _ (List.mem_of_getElem? (i := 8) rfl)
theorem w9 {Z : State} {a0 : Array Value} (hw : HW Z a0) : ((Jvm.Cond.code ({ cls := "java/lang/Long", name := "numberOfLeadingZeros", desc := "(J)I" } : Jvm.MethodName) jdk_35_method_48_code (3 : Nat) (Option.some Jvm.ClassFile.FieldType.int))).before a0 Z = true := hw _ (List.mem_of_getElem? (i := 9) rfl)
theorem w10 {Z : State} {a0 : Array Value} (hw : HW Z a0) : ((Jvm.Cond.methodLink "java/lang/Long" (308 : Nat) ({ cls := "java/lang/Integer", name := "numberOfLeadingZeros", desc := "(I)I" } : Jvm.MethodName))).before a0 Z = true := hw _ (List.mem_of_getElem? (i := 10) rfl)
theorem w11 {Z : State} {a0 : Array Value} (hw : HW Z a0) : ((Jvm.Cond.static ({ cls := "java/lang/Integer", name := "numberOfLeadingZeros", desc := "(I)I" } : Jvm.MethodName))).before a0 Z = true := hw _ (List.mem_of_getElem? (i := 11) rfl)
theorem w12 {Z : State} {a0 : Array Value} (hw : HW Z a0) : ((Jvm.Cond.initialized "java/lang/Integer")).before a0 Z = true := hw _ (List.mem_of_getElem? (i := 12) rfl)
theorem w13 {Z : State} {a0 : Array Value} (hw : HW Z a0) : ((Jvm.Cond.code ({ cls := "java/lang/Integer", name := "numberOfLeadingZeros", desc := "(I)I" } : Jvm.MethodName) jdk_33_method_47_code (2 : Nat) (Option.some Jvm.ClassFile.FieldType.int))).before a0 Z = true := hw _ (List.mem_of_getElem? (i := 13) rfl)
theorem w14 {Z : State} {a0 : Array Value} (hw : HW Z a0) : ((Jvm.Cond.methodLink "com/example/apportion/apportion/IdleTimeline" (225 : Nat) ({ cls := "java/lang/Math", name := "max", desc := "(II)I" } : Jvm.MethodName))).before a0 Z = true := hw _ (List.mem_of_getElem? (i := 14) rfl)
theorem w15 {Z : State} {a0 : Array Value} (hw : HW Z a0) : ((Jvm.Cond.static ({ cls := "java/lang/Math", name := "max", desc := "(II)I" } : Jvm.MethodName))).before a0 Z = true := hw _ (List.mem_of_getElem? (i := 15) rfl)
theorem w16 {Z : State} {a0 : Array Value} (hw : HW Z a0) : ((Jvm.Cond.initialized "java/lang/Math")).before a0 Z = true := hw _ (List.mem_of_getElem? (i := 16) rfl)
theorem w17 {Z : State} {a0 : Array Value} (hw : HW Z a0) : ((Jvm.Cond.code ({ cls := "java/lang/Math", name := "max", desc := "(II)I" } : Jvm.MethodName) jdk_29_method_65_code (2 : Nat) (Option.some Jvm.ClassFile.FieldType.int))).before a0 Z = true := hw _ (List.mem_of_getElem? (i := 17) rfl)
theorem w18 {Z : State} {a0 : Array Value} (hw : HW Z a0) : ((Jvm.Cond.constantLong "com/example/apportion/apportion/IdleTimelineRunLengthPinLaw" (17 : Nat) (4611686018427387904 : Int64))).before a0 Z = true := hw _ (List.mem_of_getElem? (i := 18) rfl)
theorem w19 {Z : State} {a0 : Array Value} (hw : HW Z a0) : ((Jvm.Cond.constant "com/example/apportion/apportion/IdleTimelineRunLengthPinLaw" (20 : Nat) (54272 : Int32))).before a0 Z = true := hw _ (List.mem_of_getElem? (i := 19) rfl)
theorem w20 {Z : State} {a0 : Array Value} (hw : HW Z a0) : ((Jvm.Cond.methodLink "com/example/apportion/apportion/IdleTimelineRunLengthPinLaw" (21 : Nat) ({ cls := "com/example/apportion/apportion/IdleTimelineRunLengthPinLaw", name := "val", desc := "(I)J" } : Jvm.MethodName))).before a0 Z = true := hw _ (List.mem_of_getElem? (i := 20) rfl)
theorem w21 {Z : State} {a0 : Array Value} (hw : HW Z a0) : ((Jvm.Cond.static ({ cls := "com/example/apportion/apportion/IdleTimelineRunLengthPinLaw", name := "val", desc := "(I)J" } : Jvm.MethodName))).before a0 Z = true := hw _ (List.mem_of_getElem? (i := 21) rfl)
theorem w22 {Z : State} {a0 : Array Value} (hw : HW Z a0) : ((Jvm.Cond.initialized "com/example/apportion/apportion/IdleTimelineRunLengthPinLaw")).before a0 Z = true := hw _ (List.mem_of_getElem? (i := 22) rfl)
theorem w23 {Z : State} {a0 : Array Value} (hw : HW Z a0) : ((Jvm.Cond.code ({ cls := "com/example/apportion/apportion/IdleTimelineRunLengthPinLaw", name := "val", desc := "(I)J" } : Jvm.MethodName) method_2_code (4 : Nat) (Option.some Jvm.ClassFile.FieldType.long))).before a0 Z = true := hw _ (List.mem_of_getElem? (i := 23) rfl)
theorem w24 {Z : State} {a0 : Array Value} (hw : HW Z a0) : ((Jvm.Cond.constant "java/lang/Integer" (264 : Nat) (65536 : Int32))).before a0 Z = true := hw _ (List.mem_of_getElem? (i := 24) rfl)
theorem w25 {Z : State} {a0 : Array Value} (hw : HW Z a0) : ((Jvm.Cond.constant "com/example/apportion/apportion/IdleTimeline" (349 : Nat) (65535 : Int32))).before a0 Z = true := hw _ (List.mem_of_getElem? (i := 25) rfl)
theorem w26 {Z : State} {a0 : Array Value} (hw : HW Z a0) : ((Jvm.Cond.constant "com/example/apportion/apportion/IdleTimelineRunLengthPinLaw" (19 : Nat) (65535 : Int32))).before a0 Z = true := hw _ (List.mem_of_getElem? (i := 26) rfl)
theorem pd_0 : parseMethodDescriptor "(I)I" = some ⟨[.int], some .int⟩ := by decide +kernel
theorem pd_1 : parseMethodDescriptor "(J)I" = some ⟨[.long], some .int⟩ := by decide +kernel
theorem pd_2 : parseMethodDescriptor "(II)I" = some ⟨[.int, .int], some .int⟩ := by decide +kernel
theorem pd_3 : parseMethodDescriptor "(J)C" = some ⟨[.long], some .char⟩ := by decide +kernel
theorem pd_4 : parseMethodDescriptor "(I)J" = some ⟨[.int], some .long⟩ := by decide +kernel
theorem d1_0 : decode prog_99_method_42_code 0 = .ok (.lload_n 0, 1) := by decide +kernel
theorem d1_1 : decode prog_99_method_42_code 1 = .ok (.ldc2_w 370, 3) := by decide +kernel
theorem d1_4 : decode prog_99_method_42_code 4 = .ok (.lcmp, 1) := by decide +kernel
theorem d1_5 : decode prog_99_method_42_code 5 = .ok (.ifCond .lt 7, 3) := by decide +kernel
theorem d1_8 : decode prog_99_method_42_code 8 = .ok (.ldc_w 349, 3) := by decide +kernel
theorem d1_11 : decode prog_99_method_42_code 11 = .ok (.ireturn, 1) := by decide +kernel
theorem d1_12 : decode prog_99_method_42_code 12 = .ok (.iconst 0, 1) := by decide +kernel
theorem d1_13 : decode prog_99_method_42_code 13 = .ok (.bipush 64, 2) := by decide +kernel
theorem d1_15 : decode prog_99_method_42_code 15 = .ok (.lload_n 0, 1) := by decide +kernel
theorem d1_16 : decode prog_99_method_42_code 16 = .ok (.invokestatic 372, 3) := by decide +kernel
theorem d1_19 : decode prog_99_method_42_code 19 = .ok (.isub, 1) := by decide +kernel
theorem d1_20 : decode prog_99_method_42_code 20 = .ok (.bipush 11, 2) := by decide +kernel
theorem d1_22 : decode prog_99_method_42_code 22 = .ok (.isub, 1) := by decide +kernel
theorem d1_23 : decode prog_99_method_42_code 23 = .ok (.invokestatic 225, 3) := by decide +kernel
theorem d1_26 : decode prog_99_method_42_code 26 = .ok (.istore_n 2, 1) := by decide +kernel
theorem d1_27 : decode prog_99_method_42_code 27 = .ok (.lload_n 0, 1) := by decide +kernel
theorem d1_28 : decode prog_99_method_42_code 28 = .ok (.lconst 1, 1) := by decide +kernel
theorem d1_29 : decode prog_99_method_42_code 29 = .ok (.iload_n 2, 1) := by decide +kernel
theorem d1_30 : decode prog_99_method_42_code 30 = .ok (.lshl, 1) := by decide +kernel
theorem d1_31 : decode prog_99_method_42_code 31 = .ok (.lconst 1, 1) := by decide +kernel
theorem d1_32 : decode prog_99_method_42_code 32 = .ok (.lsub, 1) := by decide +kernel
theorem d1_33 : decode prog_99_method_42_code 33 = .ok (.land, 1) := by decide +kernel
theorem d1_34 : decode prog_99_method_42_code 34 = .ok (.lneg, 1) := by decide +kernel
theorem d1_35 : decode prog_99_method_42_code 35 = .ok (.bipush 63, 2) := by decide +kernel
theorem d1_37 : decode prog_99_method_42_code 37 = .ok (.lushr, 1) := by decide +kernel
theorem d1_38 : decode prog_99_method_42_code 38 = .ok (.lstore_n 3, 1) := by decide +kernel
theorem d1_39 : decode prog_99_method_42_code 39 = .ok (.iload_n 2, 1) := by decide +kernel
theorem d1_40 : decode prog_99_method_42_code 40 = .ok (.bipush 10, 2) := by decide +kernel
theorem d1_42 : decode prog_99_method_42_code 42 = .ok (.ishl, 1) := by decide +kernel
theorem d1_43 : decode prog_99_method_42_code 43 = .ok (.i2l, 1) := by decide +kernel
theorem d1_44 : decode prog_99_method_42_code 44 = .ok (.lload_n 0, 1) := by decide +kernel
theorem d1_45 : decode prog_99_method_42_code 45 = .ok (.iload_n 2, 1) := by decide +kernel
theorem d1_46 : decode prog_99_method_42_code 46 = .ok (.lushr, 1) := by decide +kernel
theorem d1_47 : decode prog_99_method_42_code 47 = .ok (.ladd, 1) := by decide +kernel
theorem d1_48 : decode prog_99_method_42_code 48 = .ok (.lload_n 3, 1) := by decide +kernel
theorem d1_49 : decode prog_99_method_42_code 49 = .ok (.ladd, 1) := by decide +kernel
theorem d1_50 : decode prog_99_method_42_code 50 = .ok (.l2i, 1) := by decide +kernel
theorem d1_51 : decode prog_99_method_42_code 51 = .ok (.i2c, 1) := by decide +kernel
theorem d1_52 : decode prog_99_method_42_code 52 = .ok (.ireturn, 1) := by decide +kernel
theorem d2_0 : decode jdk_35_method_48_code 0 = .ok (.lload_n 0, 1) := by decide +kernel
theorem d2_1 : decode jdk_35_method_48_code 1 = .ok (.bipush 32, 2) := by decide +kernel
theorem d2_3 : decode jdk_35_method_48_code 3 = .ok (.lushr, 1) := by decide +kernel
theorem d2_4 : decode jdk_35_method_48_code 4 = .ok (.l2i, 1) := by decide +kernel
theorem d2_5 : decode jdk_35_method_48_code 5 = .ok (.istore_n 2, 1) := by decide +kernel
theorem d2_6 : decode jdk_35_method_48_code 6 = .ok (.iload_n 2, 1) := by decide +kernel
theorem d2_7 : decode jdk_35_method_48_code 7 = .ok (.ifCond .ne 14, 3) := by decide +kernel
theorem d2_10 : decode jdk_35_method_48_code 10 = .ok (.bipush 32, 2) := by decide +kernel
theorem d2_12 : decode jdk_35_method_48_code 12 = .ok (.lload_n 0, 1) := by decide +kernel
theorem d2_13 : decode jdk_35_method_48_code 13 = .ok (.l2i, 1) := by decide +kernel
theorem d2_14 : decode jdk_35_method_48_code 14 = .ok (.invokestatic 308, 3) := by decide +kernel
theorem d2_17 : decode jdk_35_method_48_code 17 = .ok (.iadd, 1) := by decide +kernel
theorem d2_18 : decode jdk_35_method_48_code 18 = .ok (.goto 7, 3) := by decide +kernel
theorem d2_21 : decode jdk_35_method_48_code 21 = .ok (.iload_n 2, 1) := by decide +kernel
theorem d2_22 : decode jdk_35_method_48_code 22 = .ok (.invokestatic 308, 3) := by decide +kernel
theorem d2_25 : decode jdk_35_method_48_code 25 = .ok (.ireturn, 1) := by decide +kernel
theorem d3_0 : decode jdk_33_method_47_code 0 = .ok (.iload_n 0, 1) := by decide +kernel
theorem d3_1 : decode jdk_33_method_47_code 1 = .ok (.ifCond .gt 14, 3) := by decide +kernel
theorem d3_4 : decode jdk_33_method_47_code 4 = .ok (.iload_n 0, 1) := by decide +kernel
theorem d3_5 : decode jdk_33_method_47_code 5 = .ok (.ifCond .ne 8, 3) := by decide +kernel
theorem d3_8 : decode jdk_33_method_47_code 8 = .ok (.bipush 32, 2) := by decide +kernel
theorem d3_10 : decode jdk_33_method_47_code 10 = .ok (.goto 4, 3) := by decide +kernel
theorem d3_13 : decode jdk_33_method_47_code 13 = .ok (.iconst 0, 1) := by decide +kernel
theorem d3_14 : decode jdk_33_method_47_code 14 = .ok (.ireturn, 1) := by decide +kernel
theorem d3_15 : decode jdk_33_method_47_code 15 = .ok (.bipush 31, 2) := by decide +kernel
theorem d3_17 : decode jdk_33_method_47_code 17 = .ok (.istore_n 1, 1) := by decide +kernel
theorem d3_18 : decode jdk_33_method_47_code 18 = .ok (.iload_n 0, 1) := by decide +kernel
theorem d3_19 : decode jdk_33_method_47_code 19 = .ok (.ldc_w 264, 3) := by decide +kernel
theorem d3_22 : decode jdk_33_method_47_code 22 = .ok (.if_icmp .lt 11, 3) := by decide +kernel
theorem d3_25 : decode jdk_33_method_47_code 25 = .ok (.iinc 1 (-16), 3) := by decide +kernel
theorem d3_28 : decode jdk_33_method_47_code 28 = .ok (.iload_n 0, 1) := by decide +kernel
theorem d3_29 : decode jdk_33_method_47_code 29 = .ok (.bipush 16, 2) := by decide +kernel
theorem d3_31 : decode jdk_33_method_47_code 31 = .ok (.iushr, 1) := by decide +kernel
theorem d3_32 : decode jdk_33_method_47_code 32 = .ok (.istore_n 0, 1) := by decide +kernel
theorem d3_33 : decode jdk_33_method_47_code 33 = .ok (.iload_n 0, 1) := by decide +kernel
theorem d3_34 : decode jdk_33_method_47_code 34 = .ok (.sipush 256, 3) := by decide +kernel
theorem d3_37 : decode jdk_33_method_47_code 37 = .ok (.if_icmp .lt 11, 3) := by decide +kernel
theorem d3_40 : decode jdk_33_method_47_code 40 = .ok (.iinc 1 (-8), 3) := by decide +kernel
theorem d3_43 : decode jdk_33_method_47_code 43 = .ok (.iload_n 0, 1) := by decide +kernel
theorem d3_44 : decode jdk_33_method_47_code 44 = .ok (.bipush 8, 2) := by decide +kernel
theorem d3_46 : decode jdk_33_method_47_code 46 = .ok (.iushr, 1) := by decide +kernel
theorem d3_47 : decode jdk_33_method_47_code 47 = .ok (.istore_n 0, 1) := by decide +kernel
theorem d3_48 : decode jdk_33_method_47_code 48 = .ok (.iload_n 0, 1) := by decide +kernel
theorem d3_49 : decode jdk_33_method_47_code 49 = .ok (.bipush 16, 2) := by decide +kernel
theorem d3_51 : decode jdk_33_method_47_code 51 = .ok (.if_icmp .lt 10, 3) := by decide +kernel
theorem d3_54 : decode jdk_33_method_47_code 54 = .ok (.iinc 1 (-4), 3) := by decide +kernel
theorem d3_57 : decode jdk_33_method_47_code 57 = .ok (.iload_n 0, 1) := by decide +kernel
theorem d3_58 : decode jdk_33_method_47_code 58 = .ok (.iconst 4, 1) := by decide +kernel
theorem d3_59 : decode jdk_33_method_47_code 59 = .ok (.iushr, 1) := by decide +kernel
theorem d3_60 : decode jdk_33_method_47_code 60 = .ok (.istore_n 0, 1) := by decide +kernel
theorem d3_61 : decode jdk_33_method_47_code 61 = .ok (.iload_n 0, 1) := by decide +kernel
theorem d3_62 : decode jdk_33_method_47_code 62 = .ok (.iconst 4, 1) := by decide +kernel
theorem d3_63 : decode jdk_33_method_47_code 63 = .ok (.if_icmp .lt 10, 3) := by decide +kernel
theorem d3_66 : decode jdk_33_method_47_code 66 = .ok (.iinc 1 (-2), 3) := by decide +kernel
theorem d3_69 : decode jdk_33_method_47_code 69 = .ok (.iload_n 0, 1) := by decide +kernel
theorem d3_70 : decode jdk_33_method_47_code 70 = .ok (.iconst 2, 1) := by decide +kernel
theorem d3_71 : decode jdk_33_method_47_code 71 = .ok (.iushr, 1) := by decide +kernel
theorem d3_72 : decode jdk_33_method_47_code 72 = .ok (.istore_n 0, 1) := by decide +kernel
theorem d3_73 : decode jdk_33_method_47_code 73 = .ok (.iload_n 1, 1) := by decide +kernel
theorem d3_74 : decode jdk_33_method_47_code 74 = .ok (.iload_n 0, 1) := by decide +kernel
theorem d3_75 : decode jdk_33_method_47_code 75 = .ok (.iconst 1, 1) := by decide +kernel
theorem d3_76 : decode jdk_33_method_47_code 76 = .ok (.iushr, 1) := by decide +kernel
theorem d3_77 : decode jdk_33_method_47_code 77 = .ok (.isub, 1) := by decide +kernel
theorem d3_78 : decode jdk_33_method_47_code 78 = .ok (.ireturn, 1) := by decide +kernel
theorem d4_0 : decode jdk_29_method_65_code 0 = .ok (.iload_n 0, 1) := by decide +kernel
theorem d4_1 : decode jdk_29_method_65_code 1 = .ok (.iload_n 1, 1) := by decide +kernel
theorem d4_2 : decode jdk_29_method_65_code 2 = .ok (.if_icmp .lt 7, 3) := by decide +kernel
theorem d4_5 : decode jdk_29_method_65_code 5 = .ok (.iload_n 0, 1) := by decide +kernel
theorem d4_6 : decode jdk_29_method_65_code 6 = .ok (.goto 4, 3) := by decide +kernel
theorem d4_9 : decode jdk_29_method_65_code 9 = .ok (.iload_n 1, 1) := by decide +kernel
theorem d4_10 : decode jdk_29_method_65_code 10 = .ok (.ireturn, 1) := by decide +kernel
theorem d5_0 : decode method_2_code 0 = .ok (.iload_n 0, 1) := by decide +kernel
theorem d5_1 : decode method_2_code 1 = .ok (.sipush 2048, 3) := by decide +kernel
theorem d5_4 : decode method_2_code 4 = .ok (.if_icmp .ge 6, 3) := by decide +kernel
theorem d5_7 : decode method_2_code 7 = .ok (.iload_n 0, 1) := by decide +kernel
theorem d5_8 : decode method_2_code 8 = .ok (.i2l, 1) := by decide +kernel
theorem d5_9 : decode method_2_code 9 = .ok (.lreturn, 1) := by decide +kernel
theorem d5_10 : decode method_2_code 10 = .ok (.iload_n 0, 1) := by decide +kernel
theorem d5_11 : decode method_2_code 11 = .ok (.bipush 10, 2) := by decide +kernel
theorem d5_13 : decode method_2_code 13 = .ok (.ishr, 1) := by decide +kernel
theorem d5_14 : decode method_2_code 14 = .ok (.iconst 1, 1) := by decide +kernel
theorem d5_15 : decode method_2_code 15 = .ok (.isub, 1) := by decide +kernel
theorem d5_16 : decode method_2_code 16 = .ok (.istore_n 1, 1) := by decide +kernel
theorem d5_17 : decode method_2_code 17 = .ok (.iload_n 0, 1) := by decide +kernel
theorem d5_18 : decode method_2_code 18 = .ok (.sipush 1023, 3) := by decide +kernel
theorem d5_21 : decode method_2_code 21 = .ok (.iand, 1) := by decide +kernel
theorem d5_22 : decode method_2_code 22 = .ok (.sipush 1024, 3) := by decide +kernel
theorem d5_25 : decode method_2_code 25 = .ok (.iadd, 1) := by decide +kernel
theorem d5_26 : decode method_2_code 26 = .ok (.i2l, 1) := by decide +kernel
theorem d5_27 : decode method_2_code 27 = .ok (.lstore_n 2, 1) := by decide +kernel
theorem d5_28 : decode method_2_code 28 = .ok (.lload_n 2, 1) := by decide +kernel
theorem d5_29 : decode method_2_code 29 = .ok (.iload_n 1, 1) := by decide +kernel
theorem d5_30 : decode method_2_code 30 = .ok (.lshl, 1) := by decide +kernel
theorem d5_31 : decode method_2_code 31 = .ok (.lreturn, 1) := by decide +kernel
def B0 : Bod := ("com/example/apportion/apportion/IdleTimelineRunLengthPinLaw", "law", code, maxLocals, ret, room_1)
theorem pl0 : plainFor (⟨"com/example/apportion/apportion/IdleTimelineRunLengthPinLaw", "law", "(JI)Z"⟩ : MethodName) = true := plainFor_of_name (by first | (simp [plainName, overriddenIn]; done) | decide +kernel)
def B1 : Bod := ("com/example/apportion/apportion/IdleTimeline", "runLength", prog_99_method_42_code, 5, some .char, ({ frames := 2, cells := 0, slots := 0, locals := 32 } : Room))
theorem pl1 : plainFor (⟨"com/example/apportion/apportion/IdleTimeline", "runLength", "(J)C"⟩ : MethodName) = true := plainFor_of_name (by first | (simp [plainName, overriddenIn]; done) | decide +kernel)
def B2 : Bod := ("java/lang/Long", "numberOfLeadingZeros", jdk_35_method_48_code, 3, some .int, ({ frames := 1, cells := 0, slots := 0, locals := 15 } : Room))
theorem pl2 : plainFor (⟨"java/lang/Long", "numberOfLeadingZeros", "(J)I"⟩ : MethodName) = true := plainFor_of_name (by first | (simp [plainName, overriddenIn]; done) | decide +kernel)
def B3 : Bod := ("java/lang/Integer", "numberOfLeadingZeros", jdk_33_method_47_code, 2, some .int, ({ frames := 0, cells := 0, slots := 0, locals := 0 } : Room))
theorem pl3 : plainFor (⟨"java/lang/Integer", "numberOfLeadingZeros", "(I)I"⟩ : MethodName) = true := plainFor_of_name (by first | (simp [plainName, overriddenIn]; done) | decide +kernel)
def B4 : Bod := ("java/lang/Math", "max", jdk_29_method_65_code, 2, some .int, ({ frames := 0, cells := 0, slots := 0, locals := 0 } : Room))
theorem pl4 : plainFor (⟨"java/lang/Math", "max", "(II)I"⟩ : MethodName) = true := Jvm.Free.JP.mathPlain rfl (by decide +kernel)
def B5 : Bod := ("com/example/apportion/apportion/IdleTimelineRunLengthPinLaw", "val", method_2_code, 4, some .long, ({ frames := 0, cells := 0, slots := 0, locals := 0 } : Room))
theorem pl5 : plainFor (⟨"com/example/apportion/apportion/IdleTimelineRunLengthPinLaw", "val", "(I)J"⟩ : MethodName) = true := plainFor_of_name (by first | (simp [plainName, overriddenIn]; done) | decide +kernel)
theorem max_met {l : Launch} {Z : State} {a0 : Array Value} (hw : HW Z a0) {n0 : Nat} {h : Heap} (x y : Int32) : OMet l (⟨"java/lang/Math", "max", "(II)I"⟩ : MethodName) B4 Z n0 #[(.int x), (.int y)] h (fun v h' => h = h' ∧ ∃ r : Int32, v = some (.int r) ∧ ((x.toInt < y.toInt ∧ r.toInt = y.toInt) ∨ (y.toInt ≤ x.toInt ∧ r.toInt = x.toInt))) := by
  refine OMet.of_wp (ls0 := #[.val (.int x), .val (.int y)]) pl4 rfl rfl (fun m => own_entry 0 rfl rfl) ?_
  refine WP.iloadN d4_0 rfl (pc' := 1) rfl ?_
  refine WP.iloadN d4_1 rfl (pc' := 2) rfl ?_
  refine WP.icmpLt d4_2 (tgt := 9) (by decide) (pc' := 5) rfl (fun c2 => ?_) (fun c2 => ?_)
  ·
    refine WP.iloadN d4_9 rfl (pc' := 10) rfl ?_
    exact WP.retI d4_10 rfl (by decide) (by decide) ⟨rfl, _, rfl, by omega⟩
  refine WP.iloadN d4_5 rfl (pc' := 6) rfl ?_
  refine WP.goto d4_6 (pc' := 10) (by decide) ?_
  exact WP.retI d4_10 rfl (by decide) (by decide) ⟨rfl, _, rfl, by omega⟩
theorem own_p2 (a : Nat) : 0 < (2 : Int) ^ a := by
  induction a with
  | zero => decide
  | succ n ih => rw [Int.pow_succ]; omega
theorem own_pow {a b : Nat} (h : a ≤ b) : (2 : Int) ^ a ≤ 2 ^ b := by
  induction h with
  | refl => exact Int.le_refl _
  | step _ ih => rw [Int.pow_succ]; have := own_p2 a; omega
theorem nlz_leaf {h : Heap} (i v n : Int32) (B : Nat) (hB : B ≤ 30) (h30 : v.toInt = 1 ∨ B ≤ 29) (hn : n.toInt = 31 - (B : Int)) (hv : 1 ≤ v.toInt ∧ v.toInt < 4) (hi : (2 : Int) ^ B * v.toInt ≤ i.toInt ∧ i.toInt < (2 : Int) ^ B * v.toInt + (2 : Int) ^ B) :
    h = h ∧ ∃ r : Int32, some (Value.int (n - ushr v (1 : Int32))) = some (Value.int r) ∧ ((i.toInt = 0 ∧ r.toInt = 32) ∨ (i.toInt < 0 ∧ r.toInt = 0) ∨ ∃ b : Nat, b ≤ 30 ∧ r.toInt = 31 - (b : Int) ∧ (2 : Int) ^ b ≤ i.toInt ∧ i.toInt < (2 : Int) ^ (b + 1)) := by
  have f : (ushr v (1 : Int32)).toInt = (v.toInt % 4294967296) / 2 := own_ushr v 1 1 2 (by decide) (by decide) (by decide)
  have g : (n - ushr v (1 : Int32)).toInt = n.toInt - (ushr v (1 : Int32)).toInt := by rw [own_isub] <;> omega
  refine ⟨rfl, _, rfl, Or.inr (Or.inr ?_)⟩
  have p1 : (2 : Int) ^ (B + 1) = 2 ^ B * 2 := Int.pow_succ ..
  have p2 : (2 : Int) ^ (B + 1 + 1) = 2 ^ B * 2 * 2 := by rw [Int.pow_succ, p1]
  rcases (by omega : v.toInt = 1 ∨ v.toInt = 2 ∨ v.toInt = 3) with e | e | e
  · rw [e] at hi; exact ⟨B, by omega, by omega, by omega, by rw [p1]; omega⟩
  · rw [e] at hi; exact ⟨B + 1, by omega, by omega, by rw [p1]; omega, by rw [p2]; omega⟩
  · rw [e] at hi; exact ⟨B + 1, by omega, by omega, by rw [p1]; omega, by rw [p2]; omega⟩
theorem nlI_met {l : Launch} {Z : State} {a0 : Array Value} (hw : HW Z a0) {n0 : Nat} {h : Heap} (i : Int32) : OMet l (⟨"java/lang/Integer", "numberOfLeadingZeros", "(I)I"⟩ : MethodName) B3 Z n0 #[(.int i)] h (fun v h' => h = h' ∧ ∃ r : Int32, v = some (.int r) ∧ ((i.toInt = 0 ∧ r.toInt = 32) ∨ (i.toInt < 0 ∧ r.toInt = 0) ∨ ∃ b : Nat, b ≤ 30 ∧ r.toInt = 31 - (b : Int) ∧ (2 : Int) ^ b ≤ i.toInt ∧ i.toInt < (2 : Int) ^ (b + 1))) := by
  refine OMet.of_wp (ls0 := #[.val (.int i), .unset]) pl3 rfl rfl (fun m => own_entry 1 rfl rfl) ?_
  have ri := own_r32 i
  have k32_0 : (0 : Int32).toInt = 0 := by decide
  have k32_1 : (1 : Int32).toInt = 1 := by decide
  have k32_2 : (2 : Int32).toInt = 2 := by decide
  have k32_3 : (3 : Int32).toInt = 3 := by decide
  have k32_4 : (4 : Int32).toInt = 4 := by decide
  have k32_5 : (5 : Int32).toInt = 5 := by decide
  have k32_7 : (7 : Int32).toInt = 7 := by decide
  have k32_8 : (8 : Int32).toInt = 8 := by decide
  have k32_9 : (9 : Int32).toInt = 9 := by decide
  have k32_11 : (11 : Int32).toInt = 11 := by decide
  have k32_13 : (13 : Int32).toInt = 13 := by decide
  have k32_15 : (15 : Int32).toInt = 15 := by decide
  have k32_16 : (16 : Int32).toInt = 16 := by decide
  have k32_17 : (17 : Int32).toInt = 17 := by decide
  have k32_19 : (19 : Int32).toInt = 19 := by decide
  have k32_21 : (21 : Int32).toInt = 21 := by decide
  have k32_23 : (23 : Int32).toInt = 23 := by decide
  have k32_25 : (25 : Int32).toInt = 25 := by decide
  have k32_27 : (27 : Int32).toInt = 27 := by decide
  have k32_29 : (29 : Int32).toInt = 29 := by decide
  have k32_31 : (31 : Int32).toInt = 31 := by decide
  have k32_32 : (32 : Int32).toInt = 32 := by decide
  have k32_256 : (256 : Int32).toInt = 256 := by decide
  have k32_65536 : (65536 : Int32).toInt = 65536 := by decide
  refine WP.iloadN d3_0 rfl (pc' := 1) rfl ?_
  refine WP.ifGt d3_1 (tgt := 15) (by decide) (pc' := 4) rfl (fun c1 => ?_) (fun c1 => ?_)
  ·
    refine WP.bipush d3_15 (z := (31 : Int32)) rfl (pc' := 17) rfl ?_
    refine WP.istoreN d3_17 (pc' := 18) rfl (ls' := #[.val (.int i), .val (.int (31 : Int32))]) rfl ?_
    refine WP.iloadN d3_18 rfl (pc' := 19) rfl ?_
    refine WP.ldcwI d3_19 (w24 hw) (pc' := 22) rfl ?_
    refine WP.icmpLt d3_22 (tgt := 33) (by decide) (pc' := 25) rfl (fun c22 => ?_) (fun c22 => ?_)
    ·
      refine WP.iloadN d3_33 rfl (pc' := 34) rfl ?_
      refine WP.sipush d3_34 (z := (256 : Int32)) rfl (pc' := 37) rfl ?_
      refine WP.icmpLt d3_37 (tgt := 48) (by decide) (pc' := 40) rfl (fun c37 => ?_) (fun c37 => ?_)
      ·
        refine WP.iloadN d3_48 rfl (pc' := 49) rfl ?_
        refine WP.bipush d3_49 (z := (16 : Int32)) rfl (pc' := 51) rfl ?_
        refine WP.icmpLt d3_51 (tgt := 61) (by decide) (pc' := 54) rfl (fun c51 => ?_) (fun c51 => ?_)
        ·
          refine WP.iloadN d3_61 rfl (pc' := 62) rfl ?_
          refine WP.iconst d3_62 (z := (4 : Int32)) rfl (pc' := 63) rfl ?_
          refine WP.icmpLt d3_63 (tgt := 73) (by decide) (pc' := 66) rfl (fun c63 => ?_) (fun c63 => ?_)
          ·
            refine WP.iloadN d3_73 rfl (pc' := 74) rfl ?_
            refine WP.iloadN d3_74 rfl (pc' := 75) rfl ?_
            refine WP.iconst d3_75 (z := (1 : Int32)) rfl (pc' := 76) rfl ?_
            refine WP.iushr d3_76 (pc' := 77) rfl ?_
            refine WP.isub d3_77 (pc' := 78) rfl ?_
            exact WP.retI d3_78 rfl (by decide) (by decide) (nlz_leaf i i (31 : Int32) 0 (by decide) (by omega) (by decide) (by omega) (by omega))
          refine WP.iinc d3_66 (pc' := 69) rfl rfl (y := (29 : Int32)) (by decide) (ls' := #[.val (.int i), .val (.int (29 : Int32))]) rfl ?_
          refine WP.iloadN d3_69 rfl (pc' := 70) rfl ?_
          refine WP.iconst d3_70 (z := (2 : Int32)) rfl (pc' := 71) rfl ?_
          refine WP.iushr d3_71 (pc' := 72) rfl ?_
          obtain ⟨i4, e_i4⟩ : ∃ z, z = (ushr i (2 : Int32)) := ⟨_, rfl⟩
          rw [← e_i4]
          refine WP.istoreN d3_72 (pc' := 73) rfl (ls' := #[.val (.int i4), .val (.int (29 : Int32))]) rfl ?_
          have f_i4 : i4.toInt = i.toInt / 4 := by have q : i4.toInt = (i.toInt % 4294967296) / 4 := (by rw [e_i4]; exact own_ushr _ _ 2 _ (by decide) (by decide) (by decide)); omega
          refine WP.iloadN d3_73 rfl (pc' := 74) rfl ?_
          refine WP.iloadN d3_74 rfl (pc' := 75) rfl ?_
          refine WP.iconst d3_75 (z := (1 : Int32)) rfl (pc' := 76) rfl ?_
          refine WP.iushr d3_76 (pc' := 77) rfl ?_
          refine WP.isub d3_77 (pc' := 78) rfl ?_
          exact WP.retI d3_78 rfl (by decide) (by decide) (nlz_leaf i i4 (29 : Int32) 2 (by decide) (by omega) (by decide) (by omega) (by omega))
        refine WP.iinc d3_54 (pc' := 57) rfl rfl (y := (27 : Int32)) (by decide) (ls' := #[.val (.int i), .val (.int (27 : Int32))]) rfl ?_
        refine WP.iloadN d3_57 rfl (pc' := 58) rfl ?_
        refine WP.iconst d3_58 (z := (4 : Int32)) rfl (pc' := 59) rfl ?_
        refine WP.iushr d3_59 (pc' := 60) rfl ?_
        obtain ⟨i3, e_i3⟩ : ∃ z, z = (ushr i (4 : Int32)) := ⟨_, rfl⟩
        rw [← e_i3]
        refine WP.istoreN d3_60 (pc' := 61) rfl (ls' := #[.val (.int i3), .val (.int (27 : Int32))]) rfl ?_
        have f_i3 : i3.toInt = i.toInt / 16 := by have q : i3.toInt = (i.toInt % 4294967296) / 16 := (by rw [e_i3]; exact own_ushr _ _ 4 _ (by decide) (by decide) (by decide)); omega
        refine WP.iloadN d3_61 rfl (pc' := 62) rfl ?_
        refine WP.iconst d3_62 (z := (4 : Int32)) rfl (pc' := 63) rfl ?_
        refine WP.icmpLt d3_63 (tgt := 73) (by decide) (pc' := 66) rfl (fun c63 => ?_) (fun c63 => ?_)
        ·
          refine WP.iloadN d3_73 rfl (pc' := 74) rfl ?_
          refine WP.iloadN d3_74 rfl (pc' := 75) rfl ?_
          refine WP.iconst d3_75 (z := (1 : Int32)) rfl (pc' := 76) rfl ?_
          refine WP.iushr d3_76 (pc' := 77) rfl ?_
          refine WP.isub d3_77 (pc' := 78) rfl ?_
          exact WP.retI d3_78 rfl (by decide) (by decide) (nlz_leaf i i3 (27 : Int32) 4 (by decide) (by omega) (by decide) (by omega) (by omega))
        refine WP.iinc d3_66 (pc' := 69) rfl rfl (y := (25 : Int32)) (by decide) (ls' := #[.val (.int i3), .val (.int (25 : Int32))]) rfl ?_
        refine WP.iloadN d3_69 rfl (pc' := 70) rfl ?_
        refine WP.iconst d3_70 (z := (2 : Int32)) rfl (pc' := 71) rfl ?_
        refine WP.iushr d3_71 (pc' := 72) rfl ?_
        obtain ⟨i4, e_i4⟩ : ∃ z, z = (ushr i3 (2 : Int32)) := ⟨_, rfl⟩
        rw [← e_i4]
        refine WP.istoreN d3_72 (pc' := 73) rfl (ls' := #[.val (.int i4), .val (.int (25 : Int32))]) rfl ?_
        have f_i4 : i4.toInt = i3.toInt / 4 := by have q : i4.toInt = (i3.toInt % 4294967296) / 4 := (by rw [e_i4]; exact own_ushr _ _ 2 _ (by decide) (by decide) (by decide)); omega
        refine WP.iloadN d3_73 rfl (pc' := 74) rfl ?_
        refine WP.iloadN d3_74 rfl (pc' := 75) rfl ?_
        refine WP.iconst d3_75 (z := (1 : Int32)) rfl (pc' := 76) rfl ?_
        refine WP.iushr d3_76 (pc' := 77) rfl ?_
        refine WP.isub d3_77 (pc' := 78) rfl ?_
        exact WP.retI d3_78 rfl (by decide) (by decide) (nlz_leaf i i4 (25 : Int32) 6 (by decide) (by omega) (by decide) (by omega) (by omega))
      refine WP.iinc d3_40 (pc' := 43) rfl rfl (y := (23 : Int32)) (by decide) (ls' := #[.val (.int i), .val (.int (23 : Int32))]) rfl ?_
      refine WP.iloadN d3_43 rfl (pc' := 44) rfl ?_
      refine WP.bipush d3_44 (z := (8 : Int32)) rfl (pc' := 46) rfl ?_
      refine WP.iushr d3_46 (pc' := 47) rfl ?_
      obtain ⟨i2, e_i2⟩ : ∃ z, z = (ushr i (8 : Int32)) := ⟨_, rfl⟩
      rw [← e_i2]
      refine WP.istoreN d3_47 (pc' := 48) rfl (ls' := #[.val (.int i2), .val (.int (23 : Int32))]) rfl ?_
      have f_i2 : i2.toInt = i.toInt / 256 := by have q : i2.toInt = (i.toInt % 4294967296) / 256 := (by rw [e_i2]; exact own_ushr _ _ 8 _ (by decide) (by decide) (by decide)); omega
      refine WP.iloadN d3_48 rfl (pc' := 49) rfl ?_
      refine WP.bipush d3_49 (z := (16 : Int32)) rfl (pc' := 51) rfl ?_
      refine WP.icmpLt d3_51 (tgt := 61) (by decide) (pc' := 54) rfl (fun c51 => ?_) (fun c51 => ?_)
      ·
        refine WP.iloadN d3_61 rfl (pc' := 62) rfl ?_
        refine WP.iconst d3_62 (z := (4 : Int32)) rfl (pc' := 63) rfl ?_
        refine WP.icmpLt d3_63 (tgt := 73) (by decide) (pc' := 66) rfl (fun c63 => ?_) (fun c63 => ?_)
        ·
          refine WP.iloadN d3_73 rfl (pc' := 74) rfl ?_
          refine WP.iloadN d3_74 rfl (pc' := 75) rfl ?_
          refine WP.iconst d3_75 (z := (1 : Int32)) rfl (pc' := 76) rfl ?_
          refine WP.iushr d3_76 (pc' := 77) rfl ?_
          refine WP.isub d3_77 (pc' := 78) rfl ?_
          exact WP.retI d3_78 rfl (by decide) (by decide) (nlz_leaf i i2 (23 : Int32) 8 (by decide) (by omega) (by decide) (by omega) (by omega))
        refine WP.iinc d3_66 (pc' := 69) rfl rfl (y := (21 : Int32)) (by decide) (ls' := #[.val (.int i2), .val (.int (21 : Int32))]) rfl ?_
        refine WP.iloadN d3_69 rfl (pc' := 70) rfl ?_
        refine WP.iconst d3_70 (z := (2 : Int32)) rfl (pc' := 71) rfl ?_
        refine WP.iushr d3_71 (pc' := 72) rfl ?_
        obtain ⟨i4, e_i4⟩ : ∃ z, z = (ushr i2 (2 : Int32)) := ⟨_, rfl⟩
        rw [← e_i4]
        refine WP.istoreN d3_72 (pc' := 73) rfl (ls' := #[.val (.int i4), .val (.int (21 : Int32))]) rfl ?_
        have f_i4 : i4.toInt = i2.toInt / 4 := by have q : i4.toInt = (i2.toInt % 4294967296) / 4 := (by rw [e_i4]; exact own_ushr _ _ 2 _ (by decide) (by decide) (by decide)); omega
        refine WP.iloadN d3_73 rfl (pc' := 74) rfl ?_
        refine WP.iloadN d3_74 rfl (pc' := 75) rfl ?_
        refine WP.iconst d3_75 (z := (1 : Int32)) rfl (pc' := 76) rfl ?_
        refine WP.iushr d3_76 (pc' := 77) rfl ?_
        refine WP.isub d3_77 (pc' := 78) rfl ?_
        exact WP.retI d3_78 rfl (by decide) (by decide) (nlz_leaf i i4 (21 : Int32) 10 (by decide) (by omega) (by decide) (by omega) (by omega))
      refine WP.iinc d3_54 (pc' := 57) rfl rfl (y := (19 : Int32)) (by decide) (ls' := #[.val (.int i2), .val (.int (19 : Int32))]) rfl ?_
      refine WP.iloadN d3_57 rfl (pc' := 58) rfl ?_
      refine WP.iconst d3_58 (z := (4 : Int32)) rfl (pc' := 59) rfl ?_
      refine WP.iushr d3_59 (pc' := 60) rfl ?_
      obtain ⟨i3, e_i3⟩ : ∃ z, z = (ushr i2 (4 : Int32)) := ⟨_, rfl⟩
      rw [← e_i3]
      refine WP.istoreN d3_60 (pc' := 61) rfl (ls' := #[.val (.int i3), .val (.int (19 : Int32))]) rfl ?_
      have f_i3 : i3.toInt = i2.toInt / 16 := by have q : i3.toInt = (i2.toInt % 4294967296) / 16 := (by rw [e_i3]; exact own_ushr _ _ 4 _ (by decide) (by decide) (by decide)); omega
      refine WP.iloadN d3_61 rfl (pc' := 62) rfl ?_
      refine WP.iconst d3_62 (z := (4 : Int32)) rfl (pc' := 63) rfl ?_
      refine WP.icmpLt d3_63 (tgt := 73) (by decide) (pc' := 66) rfl (fun c63 => ?_) (fun c63 => ?_)
      ·
        refine WP.iloadN d3_73 rfl (pc' := 74) rfl ?_
        refine WP.iloadN d3_74 rfl (pc' := 75) rfl ?_
        refine WP.iconst d3_75 (z := (1 : Int32)) rfl (pc' := 76) rfl ?_
        refine WP.iushr d3_76 (pc' := 77) rfl ?_
        refine WP.isub d3_77 (pc' := 78) rfl ?_
        exact WP.retI d3_78 rfl (by decide) (by decide) (nlz_leaf i i3 (19 : Int32) 12 (by decide) (by omega) (by decide) (by omega) (by omega))
      refine WP.iinc d3_66 (pc' := 69) rfl rfl (y := (17 : Int32)) (by decide) (ls' := #[.val (.int i3), .val (.int (17 : Int32))]) rfl ?_
      refine WP.iloadN d3_69 rfl (pc' := 70) rfl ?_
      refine WP.iconst d3_70 (z := (2 : Int32)) rfl (pc' := 71) rfl ?_
      refine WP.iushr d3_71 (pc' := 72) rfl ?_
      obtain ⟨i4, e_i4⟩ : ∃ z, z = (ushr i3 (2 : Int32)) := ⟨_, rfl⟩
      rw [← e_i4]
      refine WP.istoreN d3_72 (pc' := 73) rfl (ls' := #[.val (.int i4), .val (.int (17 : Int32))]) rfl ?_
      have f_i4 : i4.toInt = i3.toInt / 4 := by have q : i4.toInt = (i3.toInt % 4294967296) / 4 := (by rw [e_i4]; exact own_ushr _ _ 2 _ (by decide) (by decide) (by decide)); omega
      refine WP.iloadN d3_73 rfl (pc' := 74) rfl ?_
      refine WP.iloadN d3_74 rfl (pc' := 75) rfl ?_
      refine WP.iconst d3_75 (z := (1 : Int32)) rfl (pc' := 76) rfl ?_
      refine WP.iushr d3_76 (pc' := 77) rfl ?_
      refine WP.isub d3_77 (pc' := 78) rfl ?_
      exact WP.retI d3_78 rfl (by decide) (by decide) (nlz_leaf i i4 (17 : Int32) 14 (by decide) (by omega) (by decide) (by omega) (by omega))
    refine WP.iinc d3_25 (pc' := 28) rfl rfl (y := (15 : Int32)) (by decide) (ls' := #[.val (.int i), .val (.int (15 : Int32))]) rfl ?_
    refine WP.iloadN d3_28 rfl (pc' := 29) rfl ?_
    refine WP.bipush d3_29 (z := (16 : Int32)) rfl (pc' := 31) rfl ?_
    refine WP.iushr d3_31 (pc' := 32) rfl ?_
    obtain ⟨i1, e_i1⟩ : ∃ z, z = (ushr i (16 : Int32)) := ⟨_, rfl⟩
    rw [← e_i1]
    refine WP.istoreN d3_32 (pc' := 33) rfl (ls' := #[.val (.int i1), .val (.int (15 : Int32))]) rfl ?_
    have f_i1 : i1.toInt = i.toInt / 65536 := by have q : i1.toInt = (i.toInt % 4294967296) / 65536 := (by rw [e_i1]; exact own_ushr _ _ 16 _ (by decide) (by decide) (by decide)); omega
    refine WP.iloadN d3_33 rfl (pc' := 34) rfl ?_
    refine WP.sipush d3_34 (z := (256 : Int32)) rfl (pc' := 37) rfl ?_
    refine WP.icmpLt d3_37 (tgt := 48) (by decide) (pc' := 40) rfl (fun c37 => ?_) (fun c37 => ?_)
    ·
      refine WP.iloadN d3_48 rfl (pc' := 49) rfl ?_
      refine WP.bipush d3_49 (z := (16 : Int32)) rfl (pc' := 51) rfl ?_
      refine WP.icmpLt d3_51 (tgt := 61) (by decide) (pc' := 54) rfl (fun c51 => ?_) (fun c51 => ?_)
      ·
        refine WP.iloadN d3_61 rfl (pc' := 62) rfl ?_
        refine WP.iconst d3_62 (z := (4 : Int32)) rfl (pc' := 63) rfl ?_
        refine WP.icmpLt d3_63 (tgt := 73) (by decide) (pc' := 66) rfl (fun c63 => ?_) (fun c63 => ?_)
        ·
          refine WP.iloadN d3_73 rfl (pc' := 74) rfl ?_
          refine WP.iloadN d3_74 rfl (pc' := 75) rfl ?_
          refine WP.iconst d3_75 (z := (1 : Int32)) rfl (pc' := 76) rfl ?_
          refine WP.iushr d3_76 (pc' := 77) rfl ?_
          refine WP.isub d3_77 (pc' := 78) rfl ?_
          exact WP.retI d3_78 rfl (by decide) (by decide) (nlz_leaf i i1 (15 : Int32) 16 (by decide) (by omega) (by decide) (by omega) (by omega))
        refine WP.iinc d3_66 (pc' := 69) rfl rfl (y := (13 : Int32)) (by decide) (ls' := #[.val (.int i1), .val (.int (13 : Int32))]) rfl ?_
        refine WP.iloadN d3_69 rfl (pc' := 70) rfl ?_
        refine WP.iconst d3_70 (z := (2 : Int32)) rfl (pc' := 71) rfl ?_
        refine WP.iushr d3_71 (pc' := 72) rfl ?_
        obtain ⟨i4, e_i4⟩ : ∃ z, z = (ushr i1 (2 : Int32)) := ⟨_, rfl⟩
        rw [← e_i4]
        refine WP.istoreN d3_72 (pc' := 73) rfl (ls' := #[.val (.int i4), .val (.int (13 : Int32))]) rfl ?_
        have f_i4 : i4.toInt = i1.toInt / 4 := by have q : i4.toInt = (i1.toInt % 4294967296) / 4 := (by rw [e_i4]; exact own_ushr _ _ 2 _ (by decide) (by decide) (by decide)); omega
        refine WP.iloadN d3_73 rfl (pc' := 74) rfl ?_
        refine WP.iloadN d3_74 rfl (pc' := 75) rfl ?_
        refine WP.iconst d3_75 (z := (1 : Int32)) rfl (pc' := 76) rfl ?_
        refine WP.iushr d3_76 (pc' := 77) rfl ?_
        refine WP.isub d3_77 (pc' := 78) rfl ?_
        exact WP.retI d3_78 rfl (by decide) (by decide) (nlz_leaf i i4 (13 : Int32) 18 (by decide) (by omega) (by decide) (by omega) (by omega))
      refine WP.iinc d3_54 (pc' := 57) rfl rfl (y := (11 : Int32)) (by decide) (ls' := #[.val (.int i1), .val (.int (11 : Int32))]) rfl ?_
      refine WP.iloadN d3_57 rfl (pc' := 58) rfl ?_
      refine WP.iconst d3_58 (z := (4 : Int32)) rfl (pc' := 59) rfl ?_
      refine WP.iushr d3_59 (pc' := 60) rfl ?_
      obtain ⟨i3, e_i3⟩ : ∃ z, z = (ushr i1 (4 : Int32)) := ⟨_, rfl⟩
      rw [← e_i3]
      refine WP.istoreN d3_60 (pc' := 61) rfl (ls' := #[.val (.int i3), .val (.int (11 : Int32))]) rfl ?_
      have f_i3 : i3.toInt = i1.toInt / 16 := by have q : i3.toInt = (i1.toInt % 4294967296) / 16 := (by rw [e_i3]; exact own_ushr _ _ 4 _ (by decide) (by decide) (by decide)); omega
      refine WP.iloadN d3_61 rfl (pc' := 62) rfl ?_
      refine WP.iconst d3_62 (z := (4 : Int32)) rfl (pc' := 63) rfl ?_
      refine WP.icmpLt d3_63 (tgt := 73) (by decide) (pc' := 66) rfl (fun c63 => ?_) (fun c63 => ?_)
      ·
        refine WP.iloadN d3_73 rfl (pc' := 74) rfl ?_
        refine WP.iloadN d3_74 rfl (pc' := 75) rfl ?_
        refine WP.iconst d3_75 (z := (1 : Int32)) rfl (pc' := 76) rfl ?_
        refine WP.iushr d3_76 (pc' := 77) rfl ?_
        refine WP.isub d3_77 (pc' := 78) rfl ?_
        exact WP.retI d3_78 rfl (by decide) (by decide) (nlz_leaf i i3 (11 : Int32) 20 (by decide) (by omega) (by decide) (by omega) (by omega))
      refine WP.iinc d3_66 (pc' := 69) rfl rfl (y := (9 : Int32)) (by decide) (ls' := #[.val (.int i3), .val (.int (9 : Int32))]) rfl ?_
      refine WP.iloadN d3_69 rfl (pc' := 70) rfl ?_
      refine WP.iconst d3_70 (z := (2 : Int32)) rfl (pc' := 71) rfl ?_
      refine WP.iushr d3_71 (pc' := 72) rfl ?_
      obtain ⟨i4, e_i4⟩ : ∃ z, z = (ushr i3 (2 : Int32)) := ⟨_, rfl⟩
      rw [← e_i4]
      refine WP.istoreN d3_72 (pc' := 73) rfl (ls' := #[.val (.int i4), .val (.int (9 : Int32))]) rfl ?_
      have f_i4 : i4.toInt = i3.toInt / 4 := by have q : i4.toInt = (i3.toInt % 4294967296) / 4 := (by rw [e_i4]; exact own_ushr _ _ 2 _ (by decide) (by decide) (by decide)); omega
      refine WP.iloadN d3_73 rfl (pc' := 74) rfl ?_
      refine WP.iloadN d3_74 rfl (pc' := 75) rfl ?_
      refine WP.iconst d3_75 (z := (1 : Int32)) rfl (pc' := 76) rfl ?_
      refine WP.iushr d3_76 (pc' := 77) rfl ?_
      refine WP.isub d3_77 (pc' := 78) rfl ?_
      exact WP.retI d3_78 rfl (by decide) (by decide) (nlz_leaf i i4 (9 : Int32) 22 (by decide) (by omega) (by decide) (by omega) (by omega))
    refine WP.iinc d3_40 (pc' := 43) rfl rfl (y := (7 : Int32)) (by decide) (ls' := #[.val (.int i1), .val (.int (7 : Int32))]) rfl ?_
    refine WP.iloadN d3_43 rfl (pc' := 44) rfl ?_
    refine WP.bipush d3_44 (z := (8 : Int32)) rfl (pc' := 46) rfl ?_
    refine WP.iushr d3_46 (pc' := 47) rfl ?_
    obtain ⟨i2, e_i2⟩ : ∃ z, z = (ushr i1 (8 : Int32)) := ⟨_, rfl⟩
    rw [← e_i2]
    refine WP.istoreN d3_47 (pc' := 48) rfl (ls' := #[.val (.int i2), .val (.int (7 : Int32))]) rfl ?_
    have f_i2 : i2.toInt = i1.toInt / 256 := by have q : i2.toInt = (i1.toInt % 4294967296) / 256 := (by rw [e_i2]; exact own_ushr _ _ 8 _ (by decide) (by decide) (by decide)); omega
    refine WP.iloadN d3_48 rfl (pc' := 49) rfl ?_
    refine WP.bipush d3_49 (z := (16 : Int32)) rfl (pc' := 51) rfl ?_
    refine WP.icmpLt d3_51 (tgt := 61) (by decide) (pc' := 54) rfl (fun c51 => ?_) (fun c51 => ?_)
    ·
      refine WP.iloadN d3_61 rfl (pc' := 62) rfl ?_
      refine WP.iconst d3_62 (z := (4 : Int32)) rfl (pc' := 63) rfl ?_
      refine WP.icmpLt d3_63 (tgt := 73) (by decide) (pc' := 66) rfl (fun c63 => ?_) (fun c63 => ?_)
      ·
        refine WP.iloadN d3_73 rfl (pc' := 74) rfl ?_
        refine WP.iloadN d3_74 rfl (pc' := 75) rfl ?_
        refine WP.iconst d3_75 (z := (1 : Int32)) rfl (pc' := 76) rfl ?_
        refine WP.iushr d3_76 (pc' := 77) rfl ?_
        refine WP.isub d3_77 (pc' := 78) rfl ?_
        exact WP.retI d3_78 rfl (by decide) (by decide) (nlz_leaf i i2 (7 : Int32) 24 (by decide) (by omega) (by decide) (by omega) (by omega))
      refine WP.iinc d3_66 (pc' := 69) rfl rfl (y := (5 : Int32)) (by decide) (ls' := #[.val (.int i2), .val (.int (5 : Int32))]) rfl ?_
      refine WP.iloadN d3_69 rfl (pc' := 70) rfl ?_
      refine WP.iconst d3_70 (z := (2 : Int32)) rfl (pc' := 71) rfl ?_
      refine WP.iushr d3_71 (pc' := 72) rfl ?_
      obtain ⟨i4, e_i4⟩ : ∃ z, z = (ushr i2 (2 : Int32)) := ⟨_, rfl⟩
      rw [← e_i4]
      refine WP.istoreN d3_72 (pc' := 73) rfl (ls' := #[.val (.int i4), .val (.int (5 : Int32))]) rfl ?_
      have f_i4 : i4.toInt = i2.toInt / 4 := by have q : i4.toInt = (i2.toInt % 4294967296) / 4 := (by rw [e_i4]; exact own_ushr _ _ 2 _ (by decide) (by decide) (by decide)); omega
      refine WP.iloadN d3_73 rfl (pc' := 74) rfl ?_
      refine WP.iloadN d3_74 rfl (pc' := 75) rfl ?_
      refine WP.iconst d3_75 (z := (1 : Int32)) rfl (pc' := 76) rfl ?_
      refine WP.iushr d3_76 (pc' := 77) rfl ?_
      refine WP.isub d3_77 (pc' := 78) rfl ?_
      exact WP.retI d3_78 rfl (by decide) (by decide) (nlz_leaf i i4 (5 : Int32) 26 (by decide) (by omega) (by decide) (by omega) (by omega))
    refine WP.iinc d3_54 (pc' := 57) rfl rfl (y := (3 : Int32)) (by decide) (ls' := #[.val (.int i2), .val (.int (3 : Int32))]) rfl ?_
    refine WP.iloadN d3_57 rfl (pc' := 58) rfl ?_
    refine WP.iconst d3_58 (z := (4 : Int32)) rfl (pc' := 59) rfl ?_
    refine WP.iushr d3_59 (pc' := 60) rfl ?_
    obtain ⟨i3, e_i3⟩ : ∃ z, z = (ushr i2 (4 : Int32)) := ⟨_, rfl⟩
    rw [← e_i3]
    refine WP.istoreN d3_60 (pc' := 61) rfl (ls' := #[.val (.int i3), .val (.int (3 : Int32))]) rfl ?_
    have f_i3 : i3.toInt = i2.toInt / 16 := by have q : i3.toInt = (i2.toInt % 4294967296) / 16 := (by rw [e_i3]; exact own_ushr _ _ 4 _ (by decide) (by decide) (by decide)); omega
    refine WP.iloadN d3_61 rfl (pc' := 62) rfl ?_
    refine WP.iconst d3_62 (z := (4 : Int32)) rfl (pc' := 63) rfl ?_
    refine WP.icmpLt d3_63 (tgt := 73) (by decide) (pc' := 66) rfl (fun c63 => ?_) (fun c63 => ?_)
    ·
      refine WP.iloadN d3_73 rfl (pc' := 74) rfl ?_
      refine WP.iloadN d3_74 rfl (pc' := 75) rfl ?_
      refine WP.iconst d3_75 (z := (1 : Int32)) rfl (pc' := 76) rfl ?_
      refine WP.iushr d3_76 (pc' := 77) rfl ?_
      refine WP.isub d3_77 (pc' := 78) rfl ?_
      exact WP.retI d3_78 rfl (by decide) (by decide) (nlz_leaf i i3 (3 : Int32) 28 (by decide) (by omega) (by decide) (by omega) (by omega))
    refine WP.iinc d3_66 (pc' := 69) rfl rfl (y := (1 : Int32)) (by decide) (ls' := #[.val (.int i3), .val (.int (1 : Int32))]) rfl ?_
    refine WP.iloadN d3_69 rfl (pc' := 70) rfl ?_
    refine WP.iconst d3_70 (z := (2 : Int32)) rfl (pc' := 71) rfl ?_
    refine WP.iushr d3_71 (pc' := 72) rfl ?_
    obtain ⟨i4, e_i4⟩ : ∃ z, z = (ushr i3 (2 : Int32)) := ⟨_, rfl⟩
    rw [← e_i4]
    refine WP.istoreN d3_72 (pc' := 73) rfl (ls' := #[.val (.int i4), .val (.int (1 : Int32))]) rfl ?_
    have f_i4 : i4.toInt = i3.toInt / 4 := by have q : i4.toInt = (i3.toInt % 4294967296) / 4 := (by rw [e_i4]; exact own_ushr _ _ 2 _ (by decide) (by decide) (by decide)); omega
    refine WP.iloadN d3_73 rfl (pc' := 74) rfl ?_
    refine WP.iloadN d3_74 rfl (pc' := 75) rfl ?_
    refine WP.iconst d3_75 (z := (1 : Int32)) rfl (pc' := 76) rfl ?_
    refine WP.iushr d3_76 (pc' := 77) rfl ?_
    refine WP.isub d3_77 (pc' := 78) rfl ?_
    exact WP.retI d3_78 rfl (by decide) (by decide) (nlz_leaf i i4 (1 : Int32) 30 (by decide) (by omega) (by decide) (by omega) (by omega))
  refine WP.iloadN d3_4 rfl (pc' := 5) rfl ?_
  refine WP.ifNe d3_5 (tgt := 13) (by decide) (pc' := 8) rfl (fun c5 => ?_) (fun c5 => ?_)
  ·
    refine WP.iconst d3_13 (z := (0 : Int32)) rfl (pc' := 14) rfl ?_
    exact WP.retI d3_14 rfl (by decide) (by decide) ⟨rfl, _, rfl, Or.inr (Or.inl ⟨by omega, by decide⟩)⟩
  refine WP.bipush d3_8 (z := (32 : Int32)) rfl (pc' := 10) rfl ?_
  refine WP.goto d3_10 (pc' := 14) (by decide) ?_
  exact WP.retI d3_14 rfl (by decide) (by decide) ⟨rfl, _, rfl, Or.inl ⟨by omega, by decide⟩⟩
theorem nlJ_met {l : Launch} {Z : State} {a0 : Array Value} (hw : HW Z a0) {n0 : Nat} {h : Heap} (x : Int64) (hx : 0 ≤ x.toInt) : OMet l (⟨"java/lang/Long", "numberOfLeadingZeros", "(J)I"⟩ : MethodName) B2 Z n0 #[(.long x)] h (fun v h' => h = h' ∧ ∃ r : Int32, v = some (.int r) ∧ ((x.toInt = 0 ∧ r.toInt = 64) ∨ ∃ b : Nat, b ≤ 62 ∧ r.toInt = 63 - (b : Int) ∧ (2 : Int) ^ b ≤ x.toInt ∧ x.toInt < (2 : Int) ^ (b + 1))) := by
  refine OMet.of_wp (ls0 := #[.val (.long x), .second, .unset]) pl2 rfl rfl (fun m => own_entry 1 rfl rfl) ?_
  have k32_32 : (32 : Int32).toInt = 32 := by decide
  refine WP.lloadN d2_0 rfl (pc' := 1) rfl ?_
  refine WP.bipush d2_1 (z := (32 : Int32)) rfl (pc' := 3) rfl ?_
  refine WP.lushr d2_3 (pc' := 4) rfl ?_
  refine WP.l2i d2_4 (pc' := 5) rfl ?_
  obtain ⟨hi, e_hi⟩ : ∃ z, z = (ushrL x (32 : Int32)).toInt32 := ⟨_, rfl⟩
  rw [← e_hi]
  refine WP.istoreN d2_5 (pc' := 6) rfl (ls' := #[.val (.long x), .second, .val (.int hi)]) rfl ?_
  have f1 : (ushrL x (32 : Int32)).toInt = (x.toInt % 18446744073709551616) / 4294967296 := c_lushr x 32 32 (by decide) (by decide)
  have f2 := c_l2i (ushrL x (32 : Int32))
  rw [← e_hi] at f2
  have f3 := own_r32 hi
  have f4 := own_r64 x
  have f5 : hi.toInt = x.toInt / 4294967296 := by omega
  clear f1 f2
  refine WP.iloadN d2_6 rfl (pc' := 7) rfl ?_
  refine WP.ifNe d2_7 (tgt := 21) (by decide) (pc' := 10) rfl (fun c7 => ?_) (fun c7 => ?_)
  ·
    refine WP.iloadN d2_21 rfl (pc' := 22) rfl ?_
    refine WP.callS (y := (⟨"java/lang/Integer", "numberOfLeadingZeros", "(I)I"⟩ : MethodName)) (By := B3) (as := [(.int hi)]) (rest := []) d2_22 (w10 hw) (w11 hw) (w12 hw) (w13 hw) (by decide) (nlI_met hw hi) pd_0 rfl rfl rfl (by decide) (Nat.le_of_ble_eq_true rfl) (by decide) (by decide) (pc' := 25) rfl ?_
    rintro _ _ ⟨rfl, r, rfl, hr⟩
    show WP _ _ _ _ _ _ _ _ _ _ [(.int r)]
    exact WP.retI d2_25 rfl (by decide) (by decide) ⟨rfl, _, rfl, by rcases hr with hr | hr | ⟨b, b1, b2, b3, b4⟩; (exfalso; omega); (exfalso; omega); (refine Or.inr ⟨b + 32, by omega, by omega, ?_, ?_⟩; (rw [Int.pow_add]; omega); (rw [show b + 32 + 1 = (b + 1) + 32 by omega, Int.pow_add]; omega))⟩
  refine WP.bipush d2_10 (z := (32 : Int32)) rfl (pc' := 12) rfl ?_
  refine WP.lloadN d2_12 rfl (pc' := 13) rfl ?_
  refine WP.l2i d2_13 (pc' := 14) rfl ?_
  refine WP.callS (y := (⟨"java/lang/Integer", "numberOfLeadingZeros", "(I)I"⟩ : MethodName)) (By := B3) (as := [(.int x.toInt32)]) (rest := [(.int (32 : Int32))]) d2_14 (w10 hw) (w11 hw) (w12 hw) (w13 hw) (by decide) (nlI_met hw x.toInt32) pd_0 rfl rfl rfl (by decide) (Nat.le_of_ble_eq_true rfl) (by decide) (by decide) (pc' := 17) rfl ?_
  rintro _ _ ⟨rfl, r, rfl, hr⟩
  have g1 := c_l2i x
  have g2 := own_r32 x.toInt32
  show WP _ _ _ _ _ _ _ _ _ _ [(.int r), (.int (32 : Int32))]
  refine WP.iadd d2_17 (pc' := 18) rfl ?_
  refine WP.goto d2_18 (pc' := 25) (by decide) ?_
  exact WP.retI d2_25 rfl (by decide) (by decide) ⟨rfl, _, rfl, by rcases hr with hr | hr | ⟨b, b1, b2, b3, b4⟩; (refine Or.inl ⟨by omega, ?_⟩; rw [own_iadd] <;> omega); (refine Or.inr ⟨31, by decide, ?_, ?_, ?_⟩; (rw [own_iadd] <;> omega); omega; omega); (refine Or.inr ⟨b, by omega, ?_, ?_, ?_⟩; (rw [own_iadd] <;> omega); omega; omega)⟩
def valF (x : Int) : Int := if x < 2048 then x else (x % 1024 + 1024) * 2 ^ ((x / 1024).toNat - 1)
theorem val_17_1 {l : Launch} {Z : State} {a0 : Array Value} (hw : HW Z a0) {n0 : Nat} {h : Heap} (x : Int32) (h1 : 2048 ≤ x.toInt) (h2 : x.toInt / 1024 = 2) (h3 : x.toInt ≤ 54272) : WP l B5 Z n0 (fun v h' => h = h' ∧ ∃ r : Int64, v = some (.long r) ∧ r.toInt = valF x.toInt) h 0 0 17 #[.val (.int x), .val (.int (1 : Int32)), .unset, .unset] [] := by
  have k32_1 : (1 : Int32).toInt = 1 := by decide
  have k32_1023 : (1023 : Int32).toInt = 1023 := by decide
  have k32_1024 : (1024 : Int32).toInt = 1024 := by decide
  refine WP.iloadN d5_17 rfl (pc' := 18) rfl ?_
  refine WP.sipush d5_18 (z := (1023 : Int32)) rfl (pc' := 21) rfl ?_
  refine WP.iand d5_21 (pc' := 22) rfl ?_
  refine WP.sipush d5_22 (z := (1024 : Int32)) rfl (pc' := 25) rfl ?_
  refine WP.iadd d5_25 (pc' := 26) rfl ?_
  refine WP.i2l d5_26 (pc' := 27) rfl ?_
  obtain ⟨t, e_t⟩ : ∃ z, z = ((x &&& (1023 : Int32)) + (1024 : Int32)).toInt64 := ⟨_, rfl⟩
  rw [← e_t]
  refine WP.lstoreN d5_27 (pc' := 28) rfl (ls' := #[.val (.int x), .val (.int (1 : Int32)), .val (.long t), .second]) rfl ?_
  have f1 : (x &&& (1023 : Int32)).toInt = x.toInt % 1024 := own_mask _ _ 10 _ (by decide) (by decide) (by decide)
  have f2 : ((x &&& (1023 : Int32)) + (1024 : Int32)).toInt = x.toInt % 1024 + 1024 := by rw [own_iadd] <;> omega
  have f3 := c_i2l ((x &&& (1023 : Int32)) + (1024 : Int32))
  rw [← e_t] at f3
  refine WP.lloadN d5_28 rfl (pc' := 29) rfl ?_
  refine WP.iloadN d5_29 rfl (pc' := 30) rfl ?_
  refine WP.lshl d5_30 (pc' := 31) rfl ?_
  exact WP.retJ d5_31 rfl (by decide) (by decide) ⟨rfl, _, rfl, by have g1 : ((t <<< ((1 : Int32) &&& 63).toInt64).toInt - t.toInt * 2) % 18446744073709551616 = 0 := c_lshl t (1 : Int32) 1 (by decide); have g2 := own_r64 (t <<< ((1 : Int32) &&& 63).toInt64); unfold valF; rw [if_neg (by omega), show (x.toInt / 1024).toNat - 1 = 1 by omega, show (2 : Int) ^ 1 = 2 from by decide]; omega⟩
theorem val_17_2 {l : Launch} {Z : State} {a0 : Array Value} (hw : HW Z a0) {n0 : Nat} {h : Heap} (x : Int32) (h1 : 2048 ≤ x.toInt) (h2 : x.toInt / 1024 = 3) (h3 : x.toInt ≤ 54272) : WP l B5 Z n0 (fun v h' => h = h' ∧ ∃ r : Int64, v = some (.long r) ∧ r.toInt = valF x.toInt) h 0 0 17 #[.val (.int x), .val (.int (2 : Int32)), .unset, .unset] [] := by
  have k32_2 : (2 : Int32).toInt = 2 := by decide
  have k32_1023 : (1023 : Int32).toInt = 1023 := by decide
  have k32_1024 : (1024 : Int32).toInt = 1024 := by decide
  refine WP.iloadN d5_17 rfl (pc' := 18) rfl ?_
  refine WP.sipush d5_18 (z := (1023 : Int32)) rfl (pc' := 21) rfl ?_
  refine WP.iand d5_21 (pc' := 22) rfl ?_
  refine WP.sipush d5_22 (z := (1024 : Int32)) rfl (pc' := 25) rfl ?_
  refine WP.iadd d5_25 (pc' := 26) rfl ?_
  refine WP.i2l d5_26 (pc' := 27) rfl ?_
  obtain ⟨t, e_t⟩ : ∃ z, z = ((x &&& (1023 : Int32)) + (1024 : Int32)).toInt64 := ⟨_, rfl⟩
  rw [← e_t]
  refine WP.lstoreN d5_27 (pc' := 28) rfl (ls' := #[.val (.int x), .val (.int (2 : Int32)), .val (.long t), .second]) rfl ?_
  have f1 : (x &&& (1023 : Int32)).toInt = x.toInt % 1024 := own_mask _ _ 10 _ (by decide) (by decide) (by decide)
  have f2 : ((x &&& (1023 : Int32)) + (1024 : Int32)).toInt = x.toInt % 1024 + 1024 := by rw [own_iadd] <;> omega
  have f3 := c_i2l ((x &&& (1023 : Int32)) + (1024 : Int32))
  rw [← e_t] at f3
  refine WP.lloadN d5_28 rfl (pc' := 29) rfl ?_
  refine WP.iloadN d5_29 rfl (pc' := 30) rfl ?_
  refine WP.lshl d5_30 (pc' := 31) rfl ?_
  exact WP.retJ d5_31 rfl (by decide) (by decide) ⟨rfl, _, rfl, by have g1 : ((t <<< ((2 : Int32) &&& 63).toInt64).toInt - t.toInt * 4) % 18446744073709551616 = 0 := c_lshl t (2 : Int32) 2 (by decide); have g2 := own_r64 (t <<< ((2 : Int32) &&& 63).toInt64); unfold valF; rw [if_neg (by omega), show (x.toInt / 1024).toNat - 1 = 2 by omega, show (2 : Int) ^ 2 = 4 from by decide]; omega⟩
theorem val_17_3 {l : Launch} {Z : State} {a0 : Array Value} (hw : HW Z a0) {n0 : Nat} {h : Heap} (x : Int32) (h1 : 2048 ≤ x.toInt) (h2 : x.toInt / 1024 = 4) (h3 : x.toInt ≤ 54272) : WP l B5 Z n0 (fun v h' => h = h' ∧ ∃ r : Int64, v = some (.long r) ∧ r.toInt = valF x.toInt) h 0 0 17 #[.val (.int x), .val (.int (3 : Int32)), .unset, .unset] [] := by
  have k32_3 : (3 : Int32).toInt = 3 := by decide
  have k32_1023 : (1023 : Int32).toInt = 1023 := by decide
  have k32_1024 : (1024 : Int32).toInt = 1024 := by decide
  refine WP.iloadN d5_17 rfl (pc' := 18) rfl ?_
  refine WP.sipush d5_18 (z := (1023 : Int32)) rfl (pc' := 21) rfl ?_
  refine WP.iand d5_21 (pc' := 22) rfl ?_
  refine WP.sipush d5_22 (z := (1024 : Int32)) rfl (pc' := 25) rfl ?_
  refine WP.iadd d5_25 (pc' := 26) rfl ?_
  refine WP.i2l d5_26 (pc' := 27) rfl ?_
  obtain ⟨t, e_t⟩ : ∃ z, z = ((x &&& (1023 : Int32)) + (1024 : Int32)).toInt64 := ⟨_, rfl⟩
  rw [← e_t]
  refine WP.lstoreN d5_27 (pc' := 28) rfl (ls' := #[.val (.int x), .val (.int (3 : Int32)), .val (.long t), .second]) rfl ?_
  have f1 : (x &&& (1023 : Int32)).toInt = x.toInt % 1024 := own_mask _ _ 10 _ (by decide) (by decide) (by decide)
  have f2 : ((x &&& (1023 : Int32)) + (1024 : Int32)).toInt = x.toInt % 1024 + 1024 := by rw [own_iadd] <;> omega
  have f3 := c_i2l ((x &&& (1023 : Int32)) + (1024 : Int32))
  rw [← e_t] at f3
  refine WP.lloadN d5_28 rfl (pc' := 29) rfl ?_
  refine WP.iloadN d5_29 rfl (pc' := 30) rfl ?_
  refine WP.lshl d5_30 (pc' := 31) rfl ?_
  exact WP.retJ d5_31 rfl (by decide) (by decide) ⟨rfl, _, rfl, by have g1 : ((t <<< ((3 : Int32) &&& 63).toInt64).toInt - t.toInt * 8) % 18446744073709551616 = 0 := c_lshl t (3 : Int32) 3 (by decide); have g2 := own_r64 (t <<< ((3 : Int32) &&& 63).toInt64); unfold valF; rw [if_neg (by omega), show (x.toInt / 1024).toNat - 1 = 3 by omega, show (2 : Int) ^ 3 = 8 from by decide]; omega⟩
theorem val_17_4 {l : Launch} {Z : State} {a0 : Array Value} (hw : HW Z a0) {n0 : Nat} {h : Heap} (x : Int32) (h1 : 2048 ≤ x.toInt) (h2 : x.toInt / 1024 = 5) (h3 : x.toInt ≤ 54272) : WP l B5 Z n0 (fun v h' => h = h' ∧ ∃ r : Int64, v = some (.long r) ∧ r.toInt = valF x.toInt) h 0 0 17 #[.val (.int x), .val (.int (4 : Int32)), .unset, .unset] [] := by
  have k32_4 : (4 : Int32).toInt = 4 := by decide
  have k32_1023 : (1023 : Int32).toInt = 1023 := by decide
  have k32_1024 : (1024 : Int32).toInt = 1024 := by decide
  refine WP.iloadN d5_17 rfl (pc' := 18) rfl ?_
  refine WP.sipush d5_18 (z := (1023 : Int32)) rfl (pc' := 21) rfl ?_
  refine WP.iand d5_21 (pc' := 22) rfl ?_
  refine WP.sipush d5_22 (z := (1024 : Int32)) rfl (pc' := 25) rfl ?_
  refine WP.iadd d5_25 (pc' := 26) rfl ?_
  refine WP.i2l d5_26 (pc' := 27) rfl ?_
  obtain ⟨t, e_t⟩ : ∃ z, z = ((x &&& (1023 : Int32)) + (1024 : Int32)).toInt64 := ⟨_, rfl⟩
  rw [← e_t]
  refine WP.lstoreN d5_27 (pc' := 28) rfl (ls' := #[.val (.int x), .val (.int (4 : Int32)), .val (.long t), .second]) rfl ?_
  have f1 : (x &&& (1023 : Int32)).toInt = x.toInt % 1024 := own_mask _ _ 10 _ (by decide) (by decide) (by decide)
  have f2 : ((x &&& (1023 : Int32)) + (1024 : Int32)).toInt = x.toInt % 1024 + 1024 := by rw [own_iadd] <;> omega
  have f3 := c_i2l ((x &&& (1023 : Int32)) + (1024 : Int32))
  rw [← e_t] at f3
  refine WP.lloadN d5_28 rfl (pc' := 29) rfl ?_
  refine WP.iloadN d5_29 rfl (pc' := 30) rfl ?_
  refine WP.lshl d5_30 (pc' := 31) rfl ?_
  exact WP.retJ d5_31 rfl (by decide) (by decide) ⟨rfl, _, rfl, by have g1 : ((t <<< ((4 : Int32) &&& 63).toInt64).toInt - t.toInt * 16) % 18446744073709551616 = 0 := c_lshl t (4 : Int32) 4 (by decide); have g2 := own_r64 (t <<< ((4 : Int32) &&& 63).toInt64); unfold valF; rw [if_neg (by omega), show (x.toInt / 1024).toNat - 1 = 4 by omega, show (2 : Int) ^ 4 = 16 from by decide]; omega⟩
theorem val_17_5 {l : Launch} {Z : State} {a0 : Array Value} (hw : HW Z a0) {n0 : Nat} {h : Heap} (x : Int32) (h1 : 2048 ≤ x.toInt) (h2 : x.toInt / 1024 = 6) (h3 : x.toInt ≤ 54272) : WP l B5 Z n0 (fun v h' => h = h' ∧ ∃ r : Int64, v = some (.long r) ∧ r.toInt = valF x.toInt) h 0 0 17 #[.val (.int x), .val (.int (5 : Int32)), .unset, .unset] [] := by
  have k32_5 : (5 : Int32).toInt = 5 := by decide
  have k32_1023 : (1023 : Int32).toInt = 1023 := by decide
  have k32_1024 : (1024 : Int32).toInt = 1024 := by decide
  refine WP.iloadN d5_17 rfl (pc' := 18) rfl ?_
  refine WP.sipush d5_18 (z := (1023 : Int32)) rfl (pc' := 21) rfl ?_
  refine WP.iand d5_21 (pc' := 22) rfl ?_
  refine WP.sipush d5_22 (z := (1024 : Int32)) rfl (pc' := 25) rfl ?_
  refine WP.iadd d5_25 (pc' := 26) rfl ?_
  refine WP.i2l d5_26 (pc' := 27) rfl ?_
  obtain ⟨t, e_t⟩ : ∃ z, z = ((x &&& (1023 : Int32)) + (1024 : Int32)).toInt64 := ⟨_, rfl⟩
  rw [← e_t]
  refine WP.lstoreN d5_27 (pc' := 28) rfl (ls' := #[.val (.int x), .val (.int (5 : Int32)), .val (.long t), .second]) rfl ?_
  have f1 : (x &&& (1023 : Int32)).toInt = x.toInt % 1024 := own_mask _ _ 10 _ (by decide) (by decide) (by decide)
  have f2 : ((x &&& (1023 : Int32)) + (1024 : Int32)).toInt = x.toInt % 1024 + 1024 := by rw [own_iadd] <;> omega
  have f3 := c_i2l ((x &&& (1023 : Int32)) + (1024 : Int32))
  rw [← e_t] at f3
  refine WP.lloadN d5_28 rfl (pc' := 29) rfl ?_
  refine WP.iloadN d5_29 rfl (pc' := 30) rfl ?_
  refine WP.lshl d5_30 (pc' := 31) rfl ?_
  exact WP.retJ d5_31 rfl (by decide) (by decide) ⟨rfl, _, rfl, by have g1 : ((t <<< ((5 : Int32) &&& 63).toInt64).toInt - t.toInt * 32) % 18446744073709551616 = 0 := c_lshl t (5 : Int32) 5 (by decide); have g2 := own_r64 (t <<< ((5 : Int32) &&& 63).toInt64); unfold valF; rw [if_neg (by omega), show (x.toInt / 1024).toNat - 1 = 5 by omega, show (2 : Int) ^ 5 = 32 from by decide]; omega⟩
theorem val_17_6 {l : Launch} {Z : State} {a0 : Array Value} (hw : HW Z a0) {n0 : Nat} {h : Heap} (x : Int32) (h1 : 2048 ≤ x.toInt) (h2 : x.toInt / 1024 = 7) (h3 : x.toInt ≤ 54272) : WP l B5 Z n0 (fun v h' => h = h' ∧ ∃ r : Int64, v = some (.long r) ∧ r.toInt = valF x.toInt) h 0 0 17 #[.val (.int x), .val (.int (6 : Int32)), .unset, .unset] [] := by
  have k32_6 : (6 : Int32).toInt = 6 := by decide
  have k32_1023 : (1023 : Int32).toInt = 1023 := by decide
  have k32_1024 : (1024 : Int32).toInt = 1024 := by decide
  refine WP.iloadN d5_17 rfl (pc' := 18) rfl ?_
  refine WP.sipush d5_18 (z := (1023 : Int32)) rfl (pc' := 21) rfl ?_
  refine WP.iand d5_21 (pc' := 22) rfl ?_
  refine WP.sipush d5_22 (z := (1024 : Int32)) rfl (pc' := 25) rfl ?_
  refine WP.iadd d5_25 (pc' := 26) rfl ?_
  refine WP.i2l d5_26 (pc' := 27) rfl ?_
  obtain ⟨t, e_t⟩ : ∃ z, z = ((x &&& (1023 : Int32)) + (1024 : Int32)).toInt64 := ⟨_, rfl⟩
  rw [← e_t]
  refine WP.lstoreN d5_27 (pc' := 28) rfl (ls' := #[.val (.int x), .val (.int (6 : Int32)), .val (.long t), .second]) rfl ?_
  have f1 : (x &&& (1023 : Int32)).toInt = x.toInt % 1024 := own_mask _ _ 10 _ (by decide) (by decide) (by decide)
  have f2 : ((x &&& (1023 : Int32)) + (1024 : Int32)).toInt = x.toInt % 1024 + 1024 := by rw [own_iadd] <;> omega
  have f3 := c_i2l ((x &&& (1023 : Int32)) + (1024 : Int32))
  rw [← e_t] at f3
  refine WP.lloadN d5_28 rfl (pc' := 29) rfl ?_
  refine WP.iloadN d5_29 rfl (pc' := 30) rfl ?_
  refine WP.lshl d5_30 (pc' := 31) rfl ?_
  exact WP.retJ d5_31 rfl (by decide) (by decide) ⟨rfl, _, rfl, by have g1 : ((t <<< ((6 : Int32) &&& 63).toInt64).toInt - t.toInt * 64) % 18446744073709551616 = 0 := c_lshl t (6 : Int32) 6 (by decide); have g2 := own_r64 (t <<< ((6 : Int32) &&& 63).toInt64); unfold valF; rw [if_neg (by omega), show (x.toInt / 1024).toNat - 1 = 6 by omega, show (2 : Int) ^ 6 = 64 from by decide]; omega⟩
theorem val_17_7 {l : Launch} {Z : State} {a0 : Array Value} (hw : HW Z a0) {n0 : Nat} {h : Heap} (x : Int32) (h1 : 2048 ≤ x.toInt) (h2 : x.toInt / 1024 = 8) (h3 : x.toInt ≤ 54272) : WP l B5 Z n0 (fun v h' => h = h' ∧ ∃ r : Int64, v = some (.long r) ∧ r.toInt = valF x.toInt) h 0 0 17 #[.val (.int x), .val (.int (7 : Int32)), .unset, .unset] [] := by
  have k32_7 : (7 : Int32).toInt = 7 := by decide
  have k32_1023 : (1023 : Int32).toInt = 1023 := by decide
  have k32_1024 : (1024 : Int32).toInt = 1024 := by decide
  refine WP.iloadN d5_17 rfl (pc' := 18) rfl ?_
  refine WP.sipush d5_18 (z := (1023 : Int32)) rfl (pc' := 21) rfl ?_
  refine WP.iand d5_21 (pc' := 22) rfl ?_
  refine WP.sipush d5_22 (z := (1024 : Int32)) rfl (pc' := 25) rfl ?_
  refine WP.iadd d5_25 (pc' := 26) rfl ?_
  refine WP.i2l d5_26 (pc' := 27) rfl ?_
  obtain ⟨t, e_t⟩ : ∃ z, z = ((x &&& (1023 : Int32)) + (1024 : Int32)).toInt64 := ⟨_, rfl⟩
  rw [← e_t]
  refine WP.lstoreN d5_27 (pc' := 28) rfl (ls' := #[.val (.int x), .val (.int (7 : Int32)), .val (.long t), .second]) rfl ?_
  have f1 : (x &&& (1023 : Int32)).toInt = x.toInt % 1024 := own_mask _ _ 10 _ (by decide) (by decide) (by decide)
  have f2 : ((x &&& (1023 : Int32)) + (1024 : Int32)).toInt = x.toInt % 1024 + 1024 := by rw [own_iadd] <;> omega
  have f3 := c_i2l ((x &&& (1023 : Int32)) + (1024 : Int32))
  rw [← e_t] at f3
  refine WP.lloadN d5_28 rfl (pc' := 29) rfl ?_
  refine WP.iloadN d5_29 rfl (pc' := 30) rfl ?_
  refine WP.lshl d5_30 (pc' := 31) rfl ?_
  exact WP.retJ d5_31 rfl (by decide) (by decide) ⟨rfl, _, rfl, by have g1 : ((t <<< ((7 : Int32) &&& 63).toInt64).toInt - t.toInt * 128) % 18446744073709551616 = 0 := c_lshl t (7 : Int32) 7 (by decide); have g2 := own_r64 (t <<< ((7 : Int32) &&& 63).toInt64); unfold valF; rw [if_neg (by omega), show (x.toInt / 1024).toNat - 1 = 7 by omega, show (2 : Int) ^ 7 = 128 from by decide]; omega⟩
theorem val_17_8 {l : Launch} {Z : State} {a0 : Array Value} (hw : HW Z a0) {n0 : Nat} {h : Heap} (x : Int32) (h1 : 2048 ≤ x.toInt) (h2 : x.toInt / 1024 = 9) (h3 : x.toInt ≤ 54272) : WP l B5 Z n0 (fun v h' => h = h' ∧ ∃ r : Int64, v = some (.long r) ∧ r.toInt = valF x.toInt) h 0 0 17 #[.val (.int x), .val (.int (8 : Int32)), .unset, .unset] [] := by
  have k32_8 : (8 : Int32).toInt = 8 := by decide
  have k32_1023 : (1023 : Int32).toInt = 1023 := by decide
  have k32_1024 : (1024 : Int32).toInt = 1024 := by decide
  refine WP.iloadN d5_17 rfl (pc' := 18) rfl ?_
  refine WP.sipush d5_18 (z := (1023 : Int32)) rfl (pc' := 21) rfl ?_
  refine WP.iand d5_21 (pc' := 22) rfl ?_
  refine WP.sipush d5_22 (z := (1024 : Int32)) rfl (pc' := 25) rfl ?_
  refine WP.iadd d5_25 (pc' := 26) rfl ?_
  refine WP.i2l d5_26 (pc' := 27) rfl ?_
  obtain ⟨t, e_t⟩ : ∃ z, z = ((x &&& (1023 : Int32)) + (1024 : Int32)).toInt64 := ⟨_, rfl⟩
  rw [← e_t]
  refine WP.lstoreN d5_27 (pc' := 28) rfl (ls' := #[.val (.int x), .val (.int (8 : Int32)), .val (.long t), .second]) rfl ?_
  have f1 : (x &&& (1023 : Int32)).toInt = x.toInt % 1024 := own_mask _ _ 10 _ (by decide) (by decide) (by decide)
  have f2 : ((x &&& (1023 : Int32)) + (1024 : Int32)).toInt = x.toInt % 1024 + 1024 := by rw [own_iadd] <;> omega
  have f3 := c_i2l ((x &&& (1023 : Int32)) + (1024 : Int32))
  rw [← e_t] at f3
  refine WP.lloadN d5_28 rfl (pc' := 29) rfl ?_
  refine WP.iloadN d5_29 rfl (pc' := 30) rfl ?_
  refine WP.lshl d5_30 (pc' := 31) rfl ?_
  exact WP.retJ d5_31 rfl (by decide) (by decide) ⟨rfl, _, rfl, by have g1 : ((t <<< ((8 : Int32) &&& 63).toInt64).toInt - t.toInt * 256) % 18446744073709551616 = 0 := c_lshl t (8 : Int32) 8 (by decide); have g2 := own_r64 (t <<< ((8 : Int32) &&& 63).toInt64); unfold valF; rw [if_neg (by omega), show (x.toInt / 1024).toNat - 1 = 8 by omega, show (2 : Int) ^ 8 = 256 from by decide]; omega⟩
theorem val_17_9 {l : Launch} {Z : State} {a0 : Array Value} (hw : HW Z a0) {n0 : Nat} {h : Heap} (x : Int32) (h1 : 2048 ≤ x.toInt) (h2 : x.toInt / 1024 = 10) (h3 : x.toInt ≤ 54272) : WP l B5 Z n0 (fun v h' => h = h' ∧ ∃ r : Int64, v = some (.long r) ∧ r.toInt = valF x.toInt) h 0 0 17 #[.val (.int x), .val (.int (9 : Int32)), .unset, .unset] [] := by
  have k32_9 : (9 : Int32).toInt = 9 := by decide
  have k32_1023 : (1023 : Int32).toInt = 1023 := by decide
  have k32_1024 : (1024 : Int32).toInt = 1024 := by decide
  refine WP.iloadN d5_17 rfl (pc' := 18) rfl ?_
  refine WP.sipush d5_18 (z := (1023 : Int32)) rfl (pc' := 21) rfl ?_
  refine WP.iand d5_21 (pc' := 22) rfl ?_
  refine WP.sipush d5_22 (z := (1024 : Int32)) rfl (pc' := 25) rfl ?_
  refine WP.iadd d5_25 (pc' := 26) rfl ?_
  refine WP.i2l d5_26 (pc' := 27) rfl ?_
  obtain ⟨t, e_t⟩ : ∃ z, z = ((x &&& (1023 : Int32)) + (1024 : Int32)).toInt64 := ⟨_, rfl⟩
  rw [← e_t]
  refine WP.lstoreN d5_27 (pc' := 28) rfl (ls' := #[.val (.int x), .val (.int (9 : Int32)), .val (.long t), .second]) rfl ?_
  have f1 : (x &&& (1023 : Int32)).toInt = x.toInt % 1024 := own_mask _ _ 10 _ (by decide) (by decide) (by decide)
  have f2 : ((x &&& (1023 : Int32)) + (1024 : Int32)).toInt = x.toInt % 1024 + 1024 := by rw [own_iadd] <;> omega
  have f3 := c_i2l ((x &&& (1023 : Int32)) + (1024 : Int32))
  rw [← e_t] at f3
  refine WP.lloadN d5_28 rfl (pc' := 29) rfl ?_
  refine WP.iloadN d5_29 rfl (pc' := 30) rfl ?_
  refine WP.lshl d5_30 (pc' := 31) rfl ?_
  exact WP.retJ d5_31 rfl (by decide) (by decide) ⟨rfl, _, rfl, by have g1 : ((t <<< ((9 : Int32) &&& 63).toInt64).toInt - t.toInt * 512) % 18446744073709551616 = 0 := c_lshl t (9 : Int32) 9 (by decide); have g2 := own_r64 (t <<< ((9 : Int32) &&& 63).toInt64); unfold valF; rw [if_neg (by omega), show (x.toInt / 1024).toNat - 1 = 9 by omega, show (2 : Int) ^ 9 = 512 from by decide]; omega⟩
theorem val_17_10 {l : Launch} {Z : State} {a0 : Array Value} (hw : HW Z a0) {n0 : Nat} {h : Heap} (x : Int32) (h1 : 2048 ≤ x.toInt) (h2 : x.toInt / 1024 = 11) (h3 : x.toInt ≤ 54272) : WP l B5 Z n0 (fun v h' => h = h' ∧ ∃ r : Int64, v = some (.long r) ∧ r.toInt = valF x.toInt) h 0 0 17 #[.val (.int x), .val (.int (10 : Int32)), .unset, .unset] [] := by
  have k32_10 : (10 : Int32).toInt = 10 := by decide
  have k32_1023 : (1023 : Int32).toInt = 1023 := by decide
  have k32_1024 : (1024 : Int32).toInt = 1024 := by decide
  refine WP.iloadN d5_17 rfl (pc' := 18) rfl ?_
  refine WP.sipush d5_18 (z := (1023 : Int32)) rfl (pc' := 21) rfl ?_
  refine WP.iand d5_21 (pc' := 22) rfl ?_
  refine WP.sipush d5_22 (z := (1024 : Int32)) rfl (pc' := 25) rfl ?_
  refine WP.iadd d5_25 (pc' := 26) rfl ?_
  refine WP.i2l d5_26 (pc' := 27) rfl ?_
  obtain ⟨t, e_t⟩ : ∃ z, z = ((x &&& (1023 : Int32)) + (1024 : Int32)).toInt64 := ⟨_, rfl⟩
  rw [← e_t]
  refine WP.lstoreN d5_27 (pc' := 28) rfl (ls' := #[.val (.int x), .val (.int (10 : Int32)), .val (.long t), .second]) rfl ?_
  have f1 : (x &&& (1023 : Int32)).toInt = x.toInt % 1024 := own_mask _ _ 10 _ (by decide) (by decide) (by decide)
  have f2 : ((x &&& (1023 : Int32)) + (1024 : Int32)).toInt = x.toInt % 1024 + 1024 := by rw [own_iadd] <;> omega
  have f3 := c_i2l ((x &&& (1023 : Int32)) + (1024 : Int32))
  rw [← e_t] at f3
  refine WP.lloadN d5_28 rfl (pc' := 29) rfl ?_
  refine WP.iloadN d5_29 rfl (pc' := 30) rfl ?_
  refine WP.lshl d5_30 (pc' := 31) rfl ?_
  exact WP.retJ d5_31 rfl (by decide) (by decide) ⟨rfl, _, rfl, by have g1 : ((t <<< ((10 : Int32) &&& 63).toInt64).toInt - t.toInt * 1024) % 18446744073709551616 = 0 := c_lshl t (10 : Int32) 10 (by decide); have g2 := own_r64 (t <<< ((10 : Int32) &&& 63).toInt64); unfold valF; rw [if_neg (by omega), show (x.toInt / 1024).toNat - 1 = 10 by omega, show (2 : Int) ^ 10 = 1024 from by decide]; omega⟩
theorem val_17_11 {l : Launch} {Z : State} {a0 : Array Value} (hw : HW Z a0) {n0 : Nat} {h : Heap} (x : Int32) (h1 : 2048 ≤ x.toInt) (h2 : x.toInt / 1024 = 12) (h3 : x.toInt ≤ 54272) : WP l B5 Z n0 (fun v h' => h = h' ∧ ∃ r : Int64, v = some (.long r) ∧ r.toInt = valF x.toInt) h 0 0 17 #[.val (.int x), .val (.int (11 : Int32)), .unset, .unset] [] := by
  have k32_11 : (11 : Int32).toInt = 11 := by decide
  have k32_1023 : (1023 : Int32).toInt = 1023 := by decide
  have k32_1024 : (1024 : Int32).toInt = 1024 := by decide
  refine WP.iloadN d5_17 rfl (pc' := 18) rfl ?_
  refine WP.sipush d5_18 (z := (1023 : Int32)) rfl (pc' := 21) rfl ?_
  refine WP.iand d5_21 (pc' := 22) rfl ?_
  refine WP.sipush d5_22 (z := (1024 : Int32)) rfl (pc' := 25) rfl ?_
  refine WP.iadd d5_25 (pc' := 26) rfl ?_
  refine WP.i2l d5_26 (pc' := 27) rfl ?_
  obtain ⟨t, e_t⟩ : ∃ z, z = ((x &&& (1023 : Int32)) + (1024 : Int32)).toInt64 := ⟨_, rfl⟩
  rw [← e_t]
  refine WP.lstoreN d5_27 (pc' := 28) rfl (ls' := #[.val (.int x), .val (.int (11 : Int32)), .val (.long t), .second]) rfl ?_
  have f1 : (x &&& (1023 : Int32)).toInt = x.toInt % 1024 := own_mask _ _ 10 _ (by decide) (by decide) (by decide)
  have f2 : ((x &&& (1023 : Int32)) + (1024 : Int32)).toInt = x.toInt % 1024 + 1024 := by rw [own_iadd] <;> omega
  have f3 := c_i2l ((x &&& (1023 : Int32)) + (1024 : Int32))
  rw [← e_t] at f3
  refine WP.lloadN d5_28 rfl (pc' := 29) rfl ?_
  refine WP.iloadN d5_29 rfl (pc' := 30) rfl ?_
  refine WP.lshl d5_30 (pc' := 31) rfl ?_
  exact WP.retJ d5_31 rfl (by decide) (by decide) ⟨rfl, _, rfl, by have g1 : ((t <<< ((11 : Int32) &&& 63).toInt64).toInt - t.toInt * 2048) % 18446744073709551616 = 0 := c_lshl t (11 : Int32) 11 (by decide); have g2 := own_r64 (t <<< ((11 : Int32) &&& 63).toInt64); unfold valF; rw [if_neg (by omega), show (x.toInt / 1024).toNat - 1 = 11 by omega, show (2 : Int) ^ 11 = 2048 from by decide]; omega⟩
theorem val_17_12 {l : Launch} {Z : State} {a0 : Array Value} (hw : HW Z a0) {n0 : Nat} {h : Heap} (x : Int32) (h1 : 2048 ≤ x.toInt) (h2 : x.toInt / 1024 = 13) (h3 : x.toInt ≤ 54272) : WP l B5 Z n0 (fun v h' => h = h' ∧ ∃ r : Int64, v = some (.long r) ∧ r.toInt = valF x.toInt) h 0 0 17 #[.val (.int x), .val (.int (12 : Int32)), .unset, .unset] [] := by
  have k32_12 : (12 : Int32).toInt = 12 := by decide
  have k32_1023 : (1023 : Int32).toInt = 1023 := by decide
  have k32_1024 : (1024 : Int32).toInt = 1024 := by decide
  refine WP.iloadN d5_17 rfl (pc' := 18) rfl ?_
  refine WP.sipush d5_18 (z := (1023 : Int32)) rfl (pc' := 21) rfl ?_
  refine WP.iand d5_21 (pc' := 22) rfl ?_
  refine WP.sipush d5_22 (z := (1024 : Int32)) rfl (pc' := 25) rfl ?_
  refine WP.iadd d5_25 (pc' := 26) rfl ?_
  refine WP.i2l d5_26 (pc' := 27) rfl ?_
  obtain ⟨t, e_t⟩ : ∃ z, z = ((x &&& (1023 : Int32)) + (1024 : Int32)).toInt64 := ⟨_, rfl⟩
  rw [← e_t]
  refine WP.lstoreN d5_27 (pc' := 28) rfl (ls' := #[.val (.int x), .val (.int (12 : Int32)), .val (.long t), .second]) rfl ?_
  have f1 : (x &&& (1023 : Int32)).toInt = x.toInt % 1024 := own_mask _ _ 10 _ (by decide) (by decide) (by decide)
  have f2 : ((x &&& (1023 : Int32)) + (1024 : Int32)).toInt = x.toInt % 1024 + 1024 := by rw [own_iadd] <;> omega
  have f3 := c_i2l ((x &&& (1023 : Int32)) + (1024 : Int32))
  rw [← e_t] at f3
  refine WP.lloadN d5_28 rfl (pc' := 29) rfl ?_
  refine WP.iloadN d5_29 rfl (pc' := 30) rfl ?_
  refine WP.lshl d5_30 (pc' := 31) rfl ?_
  exact WP.retJ d5_31 rfl (by decide) (by decide) ⟨rfl, _, rfl, by have g1 : ((t <<< ((12 : Int32) &&& 63).toInt64).toInt - t.toInt * 4096) % 18446744073709551616 = 0 := c_lshl t (12 : Int32) 12 (by decide); have g2 := own_r64 (t <<< ((12 : Int32) &&& 63).toInt64); unfold valF; rw [if_neg (by omega), show (x.toInt / 1024).toNat - 1 = 12 by omega, show (2 : Int) ^ 12 = 4096 from by decide]; omega⟩
theorem val_17_13 {l : Launch} {Z : State} {a0 : Array Value} (hw : HW Z a0) {n0 : Nat} {h : Heap} (x : Int32) (h1 : 2048 ≤ x.toInt) (h2 : x.toInt / 1024 = 14) (h3 : x.toInt ≤ 54272) : WP l B5 Z n0 (fun v h' => h = h' ∧ ∃ r : Int64, v = some (.long r) ∧ r.toInt = valF x.toInt) h 0 0 17 #[.val (.int x), .val (.int (13 : Int32)), .unset, .unset] [] := by
  have k32_13 : (13 : Int32).toInt = 13 := by decide
  have k32_1023 : (1023 : Int32).toInt = 1023 := by decide
  have k32_1024 : (1024 : Int32).toInt = 1024 := by decide
  refine WP.iloadN d5_17 rfl (pc' := 18) rfl ?_
  refine WP.sipush d5_18 (z := (1023 : Int32)) rfl (pc' := 21) rfl ?_
  refine WP.iand d5_21 (pc' := 22) rfl ?_
  refine WP.sipush d5_22 (z := (1024 : Int32)) rfl (pc' := 25) rfl ?_
  refine WP.iadd d5_25 (pc' := 26) rfl ?_
  refine WP.i2l d5_26 (pc' := 27) rfl ?_
  obtain ⟨t, e_t⟩ : ∃ z, z = ((x &&& (1023 : Int32)) + (1024 : Int32)).toInt64 := ⟨_, rfl⟩
  rw [← e_t]
  refine WP.lstoreN d5_27 (pc' := 28) rfl (ls' := #[.val (.int x), .val (.int (13 : Int32)), .val (.long t), .second]) rfl ?_
  have f1 : (x &&& (1023 : Int32)).toInt = x.toInt % 1024 := own_mask _ _ 10 _ (by decide) (by decide) (by decide)
  have f2 : ((x &&& (1023 : Int32)) + (1024 : Int32)).toInt = x.toInt % 1024 + 1024 := by rw [own_iadd] <;> omega
  have f3 := c_i2l ((x &&& (1023 : Int32)) + (1024 : Int32))
  rw [← e_t] at f3
  refine WP.lloadN d5_28 rfl (pc' := 29) rfl ?_
  refine WP.iloadN d5_29 rfl (pc' := 30) rfl ?_
  refine WP.lshl d5_30 (pc' := 31) rfl ?_
  exact WP.retJ d5_31 rfl (by decide) (by decide) ⟨rfl, _, rfl, by have g1 : ((t <<< ((13 : Int32) &&& 63).toInt64).toInt - t.toInt * 8192) % 18446744073709551616 = 0 := c_lshl t (13 : Int32) 13 (by decide); have g2 := own_r64 (t <<< ((13 : Int32) &&& 63).toInt64); unfold valF; rw [if_neg (by omega), show (x.toInt / 1024).toNat - 1 = 13 by omega, show (2 : Int) ^ 13 = 8192 from by decide]; omega⟩
theorem val_17_14 {l : Launch} {Z : State} {a0 : Array Value} (hw : HW Z a0) {n0 : Nat} {h : Heap} (x : Int32) (h1 : 2048 ≤ x.toInt) (h2 : x.toInt / 1024 = 15) (h3 : x.toInt ≤ 54272) : WP l B5 Z n0 (fun v h' => h = h' ∧ ∃ r : Int64, v = some (.long r) ∧ r.toInt = valF x.toInt) h 0 0 17 #[.val (.int x), .val (.int (14 : Int32)), .unset, .unset] [] := by
  have k32_14 : (14 : Int32).toInt = 14 := by decide
  have k32_1023 : (1023 : Int32).toInt = 1023 := by decide
  have k32_1024 : (1024 : Int32).toInt = 1024 := by decide
  refine WP.iloadN d5_17 rfl (pc' := 18) rfl ?_
  refine WP.sipush d5_18 (z := (1023 : Int32)) rfl (pc' := 21) rfl ?_
  refine WP.iand d5_21 (pc' := 22) rfl ?_
  refine WP.sipush d5_22 (z := (1024 : Int32)) rfl (pc' := 25) rfl ?_
  refine WP.iadd d5_25 (pc' := 26) rfl ?_
  refine WP.i2l d5_26 (pc' := 27) rfl ?_
  obtain ⟨t, e_t⟩ : ∃ z, z = ((x &&& (1023 : Int32)) + (1024 : Int32)).toInt64 := ⟨_, rfl⟩
  rw [← e_t]
  refine WP.lstoreN d5_27 (pc' := 28) rfl (ls' := #[.val (.int x), .val (.int (14 : Int32)), .val (.long t), .second]) rfl ?_
  have f1 : (x &&& (1023 : Int32)).toInt = x.toInt % 1024 := own_mask _ _ 10 _ (by decide) (by decide) (by decide)
  have f2 : ((x &&& (1023 : Int32)) + (1024 : Int32)).toInt = x.toInt % 1024 + 1024 := by rw [own_iadd] <;> omega
  have f3 := c_i2l ((x &&& (1023 : Int32)) + (1024 : Int32))
  rw [← e_t] at f3
  refine WP.lloadN d5_28 rfl (pc' := 29) rfl ?_
  refine WP.iloadN d5_29 rfl (pc' := 30) rfl ?_
  refine WP.lshl d5_30 (pc' := 31) rfl ?_
  exact WP.retJ d5_31 rfl (by decide) (by decide) ⟨rfl, _, rfl, by have g1 : ((t <<< ((14 : Int32) &&& 63).toInt64).toInt - t.toInt * 16384) % 18446744073709551616 = 0 := c_lshl t (14 : Int32) 14 (by decide); have g2 := own_r64 (t <<< ((14 : Int32) &&& 63).toInt64); unfold valF; rw [if_neg (by omega), show (x.toInt / 1024).toNat - 1 = 14 by omega, show (2 : Int) ^ 14 = 16384 from by decide]; omega⟩
theorem val_17_15 {l : Launch} {Z : State} {a0 : Array Value} (hw : HW Z a0) {n0 : Nat} {h : Heap} (x : Int32) (h1 : 2048 ≤ x.toInt) (h2 : x.toInt / 1024 = 16) (h3 : x.toInt ≤ 54272) : WP l B5 Z n0 (fun v h' => h = h' ∧ ∃ r : Int64, v = some (.long r) ∧ r.toInt = valF x.toInt) h 0 0 17 #[.val (.int x), .val (.int (15 : Int32)), .unset, .unset] [] := by
  have k32_15 : (15 : Int32).toInt = 15 := by decide
  have k32_1023 : (1023 : Int32).toInt = 1023 := by decide
  have k32_1024 : (1024 : Int32).toInt = 1024 := by decide
  refine WP.iloadN d5_17 rfl (pc' := 18) rfl ?_
  refine WP.sipush d5_18 (z := (1023 : Int32)) rfl (pc' := 21) rfl ?_
  refine WP.iand d5_21 (pc' := 22) rfl ?_
  refine WP.sipush d5_22 (z := (1024 : Int32)) rfl (pc' := 25) rfl ?_
  refine WP.iadd d5_25 (pc' := 26) rfl ?_
  refine WP.i2l d5_26 (pc' := 27) rfl ?_
  obtain ⟨t, e_t⟩ : ∃ z, z = ((x &&& (1023 : Int32)) + (1024 : Int32)).toInt64 := ⟨_, rfl⟩
  rw [← e_t]
  refine WP.lstoreN d5_27 (pc' := 28) rfl (ls' := #[.val (.int x), .val (.int (15 : Int32)), .val (.long t), .second]) rfl ?_
  have f1 : (x &&& (1023 : Int32)).toInt = x.toInt % 1024 := own_mask _ _ 10 _ (by decide) (by decide) (by decide)
  have f2 : ((x &&& (1023 : Int32)) + (1024 : Int32)).toInt = x.toInt % 1024 + 1024 := by rw [own_iadd] <;> omega
  have f3 := c_i2l ((x &&& (1023 : Int32)) + (1024 : Int32))
  rw [← e_t] at f3
  refine WP.lloadN d5_28 rfl (pc' := 29) rfl ?_
  refine WP.iloadN d5_29 rfl (pc' := 30) rfl ?_
  refine WP.lshl d5_30 (pc' := 31) rfl ?_
  exact WP.retJ d5_31 rfl (by decide) (by decide) ⟨rfl, _, rfl, by have g1 : ((t <<< ((15 : Int32) &&& 63).toInt64).toInt - t.toInt * 32768) % 18446744073709551616 = 0 := c_lshl t (15 : Int32) 15 (by decide); have g2 := own_r64 (t <<< ((15 : Int32) &&& 63).toInt64); unfold valF; rw [if_neg (by omega), show (x.toInt / 1024).toNat - 1 = 15 by omega, show (2 : Int) ^ 15 = 32768 from by decide]; omega⟩
theorem val_17_16 {l : Launch} {Z : State} {a0 : Array Value} (hw : HW Z a0) {n0 : Nat} {h : Heap} (x : Int32) (h1 : 2048 ≤ x.toInt) (h2 : x.toInt / 1024 = 17) (h3 : x.toInt ≤ 54272) : WP l B5 Z n0 (fun v h' => h = h' ∧ ∃ r : Int64, v = some (.long r) ∧ r.toInt = valF x.toInt) h 0 0 17 #[.val (.int x), .val (.int (16 : Int32)), .unset, .unset] [] := by
  have k32_16 : (16 : Int32).toInt = 16 := by decide
  have k32_1023 : (1023 : Int32).toInt = 1023 := by decide
  have k32_1024 : (1024 : Int32).toInt = 1024 := by decide
  refine WP.iloadN d5_17 rfl (pc' := 18) rfl ?_
  refine WP.sipush d5_18 (z := (1023 : Int32)) rfl (pc' := 21) rfl ?_
  refine WP.iand d5_21 (pc' := 22) rfl ?_
  refine WP.sipush d5_22 (z := (1024 : Int32)) rfl (pc' := 25) rfl ?_
  refine WP.iadd d5_25 (pc' := 26) rfl ?_
  refine WP.i2l d5_26 (pc' := 27) rfl ?_
  obtain ⟨t, e_t⟩ : ∃ z, z = ((x &&& (1023 : Int32)) + (1024 : Int32)).toInt64 := ⟨_, rfl⟩
  rw [← e_t]
  refine WP.lstoreN d5_27 (pc' := 28) rfl (ls' := #[.val (.int x), .val (.int (16 : Int32)), .val (.long t), .second]) rfl ?_
  have f1 : (x &&& (1023 : Int32)).toInt = x.toInt % 1024 := own_mask _ _ 10 _ (by decide) (by decide) (by decide)
  have f2 : ((x &&& (1023 : Int32)) + (1024 : Int32)).toInt = x.toInt % 1024 + 1024 := by rw [own_iadd] <;> omega
  have f3 := c_i2l ((x &&& (1023 : Int32)) + (1024 : Int32))
  rw [← e_t] at f3
  refine WP.lloadN d5_28 rfl (pc' := 29) rfl ?_
  refine WP.iloadN d5_29 rfl (pc' := 30) rfl ?_
  refine WP.lshl d5_30 (pc' := 31) rfl ?_
  exact WP.retJ d5_31 rfl (by decide) (by decide) ⟨rfl, _, rfl, by have g1 : ((t <<< ((16 : Int32) &&& 63).toInt64).toInt - t.toInt * 65536) % 18446744073709551616 = 0 := c_lshl t (16 : Int32) 16 (by decide); have g2 := own_r64 (t <<< ((16 : Int32) &&& 63).toInt64); unfold valF; rw [if_neg (by omega), show (x.toInt / 1024).toNat - 1 = 16 by omega, show (2 : Int) ^ 16 = 65536 from by decide]; omega⟩
theorem val_17_17 {l : Launch} {Z : State} {a0 : Array Value} (hw : HW Z a0) {n0 : Nat} {h : Heap} (x : Int32) (h1 : 2048 ≤ x.toInt) (h2 : x.toInt / 1024 = 18) (h3 : x.toInt ≤ 54272) : WP l B5 Z n0 (fun v h' => h = h' ∧ ∃ r : Int64, v = some (.long r) ∧ r.toInt = valF x.toInt) h 0 0 17 #[.val (.int x), .val (.int (17 : Int32)), .unset, .unset] [] := by
  have k32_17 : (17 : Int32).toInt = 17 := by decide
  have k32_1023 : (1023 : Int32).toInt = 1023 := by decide
  have k32_1024 : (1024 : Int32).toInt = 1024 := by decide
  refine WP.iloadN d5_17 rfl (pc' := 18) rfl ?_
  refine WP.sipush d5_18 (z := (1023 : Int32)) rfl (pc' := 21) rfl ?_
  refine WP.iand d5_21 (pc' := 22) rfl ?_
  refine WP.sipush d5_22 (z := (1024 : Int32)) rfl (pc' := 25) rfl ?_
  refine WP.iadd d5_25 (pc' := 26) rfl ?_
  refine WP.i2l d5_26 (pc' := 27) rfl ?_
  obtain ⟨t, e_t⟩ : ∃ z, z = ((x &&& (1023 : Int32)) + (1024 : Int32)).toInt64 := ⟨_, rfl⟩
  rw [← e_t]
  refine WP.lstoreN d5_27 (pc' := 28) rfl (ls' := #[.val (.int x), .val (.int (17 : Int32)), .val (.long t), .second]) rfl ?_
  have f1 : (x &&& (1023 : Int32)).toInt = x.toInt % 1024 := own_mask _ _ 10 _ (by decide) (by decide) (by decide)
  have f2 : ((x &&& (1023 : Int32)) + (1024 : Int32)).toInt = x.toInt % 1024 + 1024 := by rw [own_iadd] <;> omega
  have f3 := c_i2l ((x &&& (1023 : Int32)) + (1024 : Int32))
  rw [← e_t] at f3
  refine WP.lloadN d5_28 rfl (pc' := 29) rfl ?_
  refine WP.iloadN d5_29 rfl (pc' := 30) rfl ?_
  refine WP.lshl d5_30 (pc' := 31) rfl ?_
  exact WP.retJ d5_31 rfl (by decide) (by decide) ⟨rfl, _, rfl, by have g1 : ((t <<< ((17 : Int32) &&& 63).toInt64).toInt - t.toInt * 131072) % 18446744073709551616 = 0 := c_lshl t (17 : Int32) 17 (by decide); have g2 := own_r64 (t <<< ((17 : Int32) &&& 63).toInt64); unfold valF; rw [if_neg (by omega), show (x.toInt / 1024).toNat - 1 = 17 by omega, show (2 : Int) ^ 17 = 131072 from by decide]; omega⟩
theorem val_17_18 {l : Launch} {Z : State} {a0 : Array Value} (hw : HW Z a0) {n0 : Nat} {h : Heap} (x : Int32) (h1 : 2048 ≤ x.toInt) (h2 : x.toInt / 1024 = 19) (h3 : x.toInt ≤ 54272) : WP l B5 Z n0 (fun v h' => h = h' ∧ ∃ r : Int64, v = some (.long r) ∧ r.toInt = valF x.toInt) h 0 0 17 #[.val (.int x), .val (.int (18 : Int32)), .unset, .unset] [] := by
  have k32_18 : (18 : Int32).toInt = 18 := by decide
  have k32_1023 : (1023 : Int32).toInt = 1023 := by decide
  have k32_1024 : (1024 : Int32).toInt = 1024 := by decide
  refine WP.iloadN d5_17 rfl (pc' := 18) rfl ?_
  refine WP.sipush d5_18 (z := (1023 : Int32)) rfl (pc' := 21) rfl ?_
  refine WP.iand d5_21 (pc' := 22) rfl ?_
  refine WP.sipush d5_22 (z := (1024 : Int32)) rfl (pc' := 25) rfl ?_
  refine WP.iadd d5_25 (pc' := 26) rfl ?_
  refine WP.i2l d5_26 (pc' := 27) rfl ?_
  obtain ⟨t, e_t⟩ : ∃ z, z = ((x &&& (1023 : Int32)) + (1024 : Int32)).toInt64 := ⟨_, rfl⟩
  rw [← e_t]
  refine WP.lstoreN d5_27 (pc' := 28) rfl (ls' := #[.val (.int x), .val (.int (18 : Int32)), .val (.long t), .second]) rfl ?_
  have f1 : (x &&& (1023 : Int32)).toInt = x.toInt % 1024 := own_mask _ _ 10 _ (by decide) (by decide) (by decide)
  have f2 : ((x &&& (1023 : Int32)) + (1024 : Int32)).toInt = x.toInt % 1024 + 1024 := by rw [own_iadd] <;> omega
  have f3 := c_i2l ((x &&& (1023 : Int32)) + (1024 : Int32))
  rw [← e_t] at f3
  refine WP.lloadN d5_28 rfl (pc' := 29) rfl ?_
  refine WP.iloadN d5_29 rfl (pc' := 30) rfl ?_
  refine WP.lshl d5_30 (pc' := 31) rfl ?_
  exact WP.retJ d5_31 rfl (by decide) (by decide) ⟨rfl, _, rfl, by have g1 : ((t <<< ((18 : Int32) &&& 63).toInt64).toInt - t.toInt * 262144) % 18446744073709551616 = 0 := c_lshl t (18 : Int32) 18 (by decide); have g2 := own_r64 (t <<< ((18 : Int32) &&& 63).toInt64); unfold valF; rw [if_neg (by omega), show (x.toInt / 1024).toNat - 1 = 18 by omega, show (2 : Int) ^ 18 = 262144 from by decide]; omega⟩
theorem val_17_19 {l : Launch} {Z : State} {a0 : Array Value} (hw : HW Z a0) {n0 : Nat} {h : Heap} (x : Int32) (h1 : 2048 ≤ x.toInt) (h2 : x.toInt / 1024 = 20) (h3 : x.toInt ≤ 54272) : WP l B5 Z n0 (fun v h' => h = h' ∧ ∃ r : Int64, v = some (.long r) ∧ r.toInt = valF x.toInt) h 0 0 17 #[.val (.int x), .val (.int (19 : Int32)), .unset, .unset] [] := by
  have k32_19 : (19 : Int32).toInt = 19 := by decide
  have k32_1023 : (1023 : Int32).toInt = 1023 := by decide
  have k32_1024 : (1024 : Int32).toInt = 1024 := by decide
  refine WP.iloadN d5_17 rfl (pc' := 18) rfl ?_
  refine WP.sipush d5_18 (z := (1023 : Int32)) rfl (pc' := 21) rfl ?_
  refine WP.iand d5_21 (pc' := 22) rfl ?_
  refine WP.sipush d5_22 (z := (1024 : Int32)) rfl (pc' := 25) rfl ?_
  refine WP.iadd d5_25 (pc' := 26) rfl ?_
  refine WP.i2l d5_26 (pc' := 27) rfl ?_
  obtain ⟨t, e_t⟩ : ∃ z, z = ((x &&& (1023 : Int32)) + (1024 : Int32)).toInt64 := ⟨_, rfl⟩
  rw [← e_t]
  refine WP.lstoreN d5_27 (pc' := 28) rfl (ls' := #[.val (.int x), .val (.int (19 : Int32)), .val (.long t), .second]) rfl ?_
  have f1 : (x &&& (1023 : Int32)).toInt = x.toInt % 1024 := own_mask _ _ 10 _ (by decide) (by decide) (by decide)
  have f2 : ((x &&& (1023 : Int32)) + (1024 : Int32)).toInt = x.toInt % 1024 + 1024 := by rw [own_iadd] <;> omega
  have f3 := c_i2l ((x &&& (1023 : Int32)) + (1024 : Int32))
  rw [← e_t] at f3
  refine WP.lloadN d5_28 rfl (pc' := 29) rfl ?_
  refine WP.iloadN d5_29 rfl (pc' := 30) rfl ?_
  refine WP.lshl d5_30 (pc' := 31) rfl ?_
  exact WP.retJ d5_31 rfl (by decide) (by decide) ⟨rfl, _, rfl, by have g1 : ((t <<< ((19 : Int32) &&& 63).toInt64).toInt - t.toInt * 524288) % 18446744073709551616 = 0 := c_lshl t (19 : Int32) 19 (by decide); have g2 := own_r64 (t <<< ((19 : Int32) &&& 63).toInt64); unfold valF; rw [if_neg (by omega), show (x.toInt / 1024).toNat - 1 = 19 by omega, show (2 : Int) ^ 19 = 524288 from by decide]; omega⟩
theorem val_17_20 {l : Launch} {Z : State} {a0 : Array Value} (hw : HW Z a0) {n0 : Nat} {h : Heap} (x : Int32) (h1 : 2048 ≤ x.toInt) (h2 : x.toInt / 1024 = 21) (h3 : x.toInt ≤ 54272) : WP l B5 Z n0 (fun v h' => h = h' ∧ ∃ r : Int64, v = some (.long r) ∧ r.toInt = valF x.toInt) h 0 0 17 #[.val (.int x), .val (.int (20 : Int32)), .unset, .unset] [] := by
  have k32_20 : (20 : Int32).toInt = 20 := by decide
  have k32_1023 : (1023 : Int32).toInt = 1023 := by decide
  have k32_1024 : (1024 : Int32).toInt = 1024 := by decide
  refine WP.iloadN d5_17 rfl (pc' := 18) rfl ?_
  refine WP.sipush d5_18 (z := (1023 : Int32)) rfl (pc' := 21) rfl ?_
  refine WP.iand d5_21 (pc' := 22) rfl ?_
  refine WP.sipush d5_22 (z := (1024 : Int32)) rfl (pc' := 25) rfl ?_
  refine WP.iadd d5_25 (pc' := 26) rfl ?_
  refine WP.i2l d5_26 (pc' := 27) rfl ?_
  obtain ⟨t, e_t⟩ : ∃ z, z = ((x &&& (1023 : Int32)) + (1024 : Int32)).toInt64 := ⟨_, rfl⟩
  rw [← e_t]
  refine WP.lstoreN d5_27 (pc' := 28) rfl (ls' := #[.val (.int x), .val (.int (20 : Int32)), .val (.long t), .second]) rfl ?_
  have f1 : (x &&& (1023 : Int32)).toInt = x.toInt % 1024 := own_mask _ _ 10 _ (by decide) (by decide) (by decide)
  have f2 : ((x &&& (1023 : Int32)) + (1024 : Int32)).toInt = x.toInt % 1024 + 1024 := by rw [own_iadd] <;> omega
  have f3 := c_i2l ((x &&& (1023 : Int32)) + (1024 : Int32))
  rw [← e_t] at f3
  refine WP.lloadN d5_28 rfl (pc' := 29) rfl ?_
  refine WP.iloadN d5_29 rfl (pc' := 30) rfl ?_
  refine WP.lshl d5_30 (pc' := 31) rfl ?_
  exact WP.retJ d5_31 rfl (by decide) (by decide) ⟨rfl, _, rfl, by have g1 : ((t <<< ((20 : Int32) &&& 63).toInt64).toInt - t.toInt * 1048576) % 18446744073709551616 = 0 := c_lshl t (20 : Int32) 20 (by decide); have g2 := own_r64 (t <<< ((20 : Int32) &&& 63).toInt64); unfold valF; rw [if_neg (by omega), show (x.toInt / 1024).toNat - 1 = 20 by omega, show (2 : Int) ^ 20 = 1048576 from by decide]; omega⟩
theorem val_17_21 {l : Launch} {Z : State} {a0 : Array Value} (hw : HW Z a0) {n0 : Nat} {h : Heap} (x : Int32) (h1 : 2048 ≤ x.toInt) (h2 : x.toInt / 1024 = 22) (h3 : x.toInt ≤ 54272) : WP l B5 Z n0 (fun v h' => h = h' ∧ ∃ r : Int64, v = some (.long r) ∧ r.toInt = valF x.toInt) h 0 0 17 #[.val (.int x), .val (.int (21 : Int32)), .unset, .unset] [] := by
  have k32_21 : (21 : Int32).toInt = 21 := by decide
  have k32_1023 : (1023 : Int32).toInt = 1023 := by decide
  have k32_1024 : (1024 : Int32).toInt = 1024 := by decide
  refine WP.iloadN d5_17 rfl (pc' := 18) rfl ?_
  refine WP.sipush d5_18 (z := (1023 : Int32)) rfl (pc' := 21) rfl ?_
  refine WP.iand d5_21 (pc' := 22) rfl ?_
  refine WP.sipush d5_22 (z := (1024 : Int32)) rfl (pc' := 25) rfl ?_
  refine WP.iadd d5_25 (pc' := 26) rfl ?_
  refine WP.i2l d5_26 (pc' := 27) rfl ?_
  obtain ⟨t, e_t⟩ : ∃ z, z = ((x &&& (1023 : Int32)) + (1024 : Int32)).toInt64 := ⟨_, rfl⟩
  rw [← e_t]
  refine WP.lstoreN d5_27 (pc' := 28) rfl (ls' := #[.val (.int x), .val (.int (21 : Int32)), .val (.long t), .second]) rfl ?_
  have f1 : (x &&& (1023 : Int32)).toInt = x.toInt % 1024 := own_mask _ _ 10 _ (by decide) (by decide) (by decide)
  have f2 : ((x &&& (1023 : Int32)) + (1024 : Int32)).toInt = x.toInt % 1024 + 1024 := by rw [own_iadd] <;> omega
  have f3 := c_i2l ((x &&& (1023 : Int32)) + (1024 : Int32))
  rw [← e_t] at f3
  refine WP.lloadN d5_28 rfl (pc' := 29) rfl ?_
  refine WP.iloadN d5_29 rfl (pc' := 30) rfl ?_
  refine WP.lshl d5_30 (pc' := 31) rfl ?_
  exact WP.retJ d5_31 rfl (by decide) (by decide) ⟨rfl, _, rfl, by have g1 : ((t <<< ((21 : Int32) &&& 63).toInt64).toInt - t.toInt * 2097152) % 18446744073709551616 = 0 := c_lshl t (21 : Int32) 21 (by decide); have g2 := own_r64 (t <<< ((21 : Int32) &&& 63).toInt64); unfold valF; rw [if_neg (by omega), show (x.toInt / 1024).toNat - 1 = 21 by omega, show (2 : Int) ^ 21 = 2097152 from by decide]; omega⟩
theorem val_17_22 {l : Launch} {Z : State} {a0 : Array Value} (hw : HW Z a0) {n0 : Nat} {h : Heap} (x : Int32) (h1 : 2048 ≤ x.toInt) (h2 : x.toInt / 1024 = 23) (h3 : x.toInt ≤ 54272) : WP l B5 Z n0 (fun v h' => h = h' ∧ ∃ r : Int64, v = some (.long r) ∧ r.toInt = valF x.toInt) h 0 0 17 #[.val (.int x), .val (.int (22 : Int32)), .unset, .unset] [] := by
  have k32_22 : (22 : Int32).toInt = 22 := by decide
  have k32_1023 : (1023 : Int32).toInt = 1023 := by decide
  have k32_1024 : (1024 : Int32).toInt = 1024 := by decide
  refine WP.iloadN d5_17 rfl (pc' := 18) rfl ?_
  refine WP.sipush d5_18 (z := (1023 : Int32)) rfl (pc' := 21) rfl ?_
  refine WP.iand d5_21 (pc' := 22) rfl ?_
  refine WP.sipush d5_22 (z := (1024 : Int32)) rfl (pc' := 25) rfl ?_
  refine WP.iadd d5_25 (pc' := 26) rfl ?_
  refine WP.i2l d5_26 (pc' := 27) rfl ?_
  obtain ⟨t, e_t⟩ : ∃ z, z = ((x &&& (1023 : Int32)) + (1024 : Int32)).toInt64 := ⟨_, rfl⟩
  rw [← e_t]
  refine WP.lstoreN d5_27 (pc' := 28) rfl (ls' := #[.val (.int x), .val (.int (22 : Int32)), .val (.long t), .second]) rfl ?_
  have f1 : (x &&& (1023 : Int32)).toInt = x.toInt % 1024 := own_mask _ _ 10 _ (by decide) (by decide) (by decide)
  have f2 : ((x &&& (1023 : Int32)) + (1024 : Int32)).toInt = x.toInt % 1024 + 1024 := by rw [own_iadd] <;> omega
  have f3 := c_i2l ((x &&& (1023 : Int32)) + (1024 : Int32))
  rw [← e_t] at f3
  refine WP.lloadN d5_28 rfl (pc' := 29) rfl ?_
  refine WP.iloadN d5_29 rfl (pc' := 30) rfl ?_
  refine WP.lshl d5_30 (pc' := 31) rfl ?_
  exact WP.retJ d5_31 rfl (by decide) (by decide) ⟨rfl, _, rfl, by have g1 : ((t <<< ((22 : Int32) &&& 63).toInt64).toInt - t.toInt * 4194304) % 18446744073709551616 = 0 := c_lshl t (22 : Int32) 22 (by decide); have g2 := own_r64 (t <<< ((22 : Int32) &&& 63).toInt64); unfold valF; rw [if_neg (by omega), show (x.toInt / 1024).toNat - 1 = 22 by omega, show (2 : Int) ^ 22 = 4194304 from by decide]; omega⟩
theorem val_17_23 {l : Launch} {Z : State} {a0 : Array Value} (hw : HW Z a0) {n0 : Nat} {h : Heap} (x : Int32) (h1 : 2048 ≤ x.toInt) (h2 : x.toInt / 1024 = 24) (h3 : x.toInt ≤ 54272) : WP l B5 Z n0 (fun v h' => h = h' ∧ ∃ r : Int64, v = some (.long r) ∧ r.toInt = valF x.toInt) h 0 0 17 #[.val (.int x), .val (.int (23 : Int32)), .unset, .unset] [] := by
  have k32_23 : (23 : Int32).toInt = 23 := by decide
  have k32_1023 : (1023 : Int32).toInt = 1023 := by decide
  have k32_1024 : (1024 : Int32).toInt = 1024 := by decide
  refine WP.iloadN d5_17 rfl (pc' := 18) rfl ?_
  refine WP.sipush d5_18 (z := (1023 : Int32)) rfl (pc' := 21) rfl ?_
  refine WP.iand d5_21 (pc' := 22) rfl ?_
  refine WP.sipush d5_22 (z := (1024 : Int32)) rfl (pc' := 25) rfl ?_
  refine WP.iadd d5_25 (pc' := 26) rfl ?_
  refine WP.i2l d5_26 (pc' := 27) rfl ?_
  obtain ⟨t, e_t⟩ : ∃ z, z = ((x &&& (1023 : Int32)) + (1024 : Int32)).toInt64 := ⟨_, rfl⟩
  rw [← e_t]
  refine WP.lstoreN d5_27 (pc' := 28) rfl (ls' := #[.val (.int x), .val (.int (23 : Int32)), .val (.long t), .second]) rfl ?_
  have f1 : (x &&& (1023 : Int32)).toInt = x.toInt % 1024 := own_mask _ _ 10 _ (by decide) (by decide) (by decide)
  have f2 : ((x &&& (1023 : Int32)) + (1024 : Int32)).toInt = x.toInt % 1024 + 1024 := by rw [own_iadd] <;> omega
  have f3 := c_i2l ((x &&& (1023 : Int32)) + (1024 : Int32))
  rw [← e_t] at f3
  refine WP.lloadN d5_28 rfl (pc' := 29) rfl ?_
  refine WP.iloadN d5_29 rfl (pc' := 30) rfl ?_
  refine WP.lshl d5_30 (pc' := 31) rfl ?_
  exact WP.retJ d5_31 rfl (by decide) (by decide) ⟨rfl, _, rfl, by have g1 : ((t <<< ((23 : Int32) &&& 63).toInt64).toInt - t.toInt * 8388608) % 18446744073709551616 = 0 := c_lshl t (23 : Int32) 23 (by decide); have g2 := own_r64 (t <<< ((23 : Int32) &&& 63).toInt64); unfold valF; rw [if_neg (by omega), show (x.toInt / 1024).toNat - 1 = 23 by omega, show (2 : Int) ^ 23 = 8388608 from by decide]; omega⟩
theorem val_17_24 {l : Launch} {Z : State} {a0 : Array Value} (hw : HW Z a0) {n0 : Nat} {h : Heap} (x : Int32) (h1 : 2048 ≤ x.toInt) (h2 : x.toInt / 1024 = 25) (h3 : x.toInt ≤ 54272) : WP l B5 Z n0 (fun v h' => h = h' ∧ ∃ r : Int64, v = some (.long r) ∧ r.toInt = valF x.toInt) h 0 0 17 #[.val (.int x), .val (.int (24 : Int32)), .unset, .unset] [] := by
  have k32_24 : (24 : Int32).toInt = 24 := by decide
  have k32_1023 : (1023 : Int32).toInt = 1023 := by decide
  have k32_1024 : (1024 : Int32).toInt = 1024 := by decide
  refine WP.iloadN d5_17 rfl (pc' := 18) rfl ?_
  refine WP.sipush d5_18 (z := (1023 : Int32)) rfl (pc' := 21) rfl ?_
  refine WP.iand d5_21 (pc' := 22) rfl ?_
  refine WP.sipush d5_22 (z := (1024 : Int32)) rfl (pc' := 25) rfl ?_
  refine WP.iadd d5_25 (pc' := 26) rfl ?_
  refine WP.i2l d5_26 (pc' := 27) rfl ?_
  obtain ⟨t, e_t⟩ : ∃ z, z = ((x &&& (1023 : Int32)) + (1024 : Int32)).toInt64 := ⟨_, rfl⟩
  rw [← e_t]
  refine WP.lstoreN d5_27 (pc' := 28) rfl (ls' := #[.val (.int x), .val (.int (24 : Int32)), .val (.long t), .second]) rfl ?_
  have f1 : (x &&& (1023 : Int32)).toInt = x.toInt % 1024 := own_mask _ _ 10 _ (by decide) (by decide) (by decide)
  have f2 : ((x &&& (1023 : Int32)) + (1024 : Int32)).toInt = x.toInt % 1024 + 1024 := by rw [own_iadd] <;> omega
  have f3 := c_i2l ((x &&& (1023 : Int32)) + (1024 : Int32))
  rw [← e_t] at f3
  refine WP.lloadN d5_28 rfl (pc' := 29) rfl ?_
  refine WP.iloadN d5_29 rfl (pc' := 30) rfl ?_
  refine WP.lshl d5_30 (pc' := 31) rfl ?_
  exact WP.retJ d5_31 rfl (by decide) (by decide) ⟨rfl, _, rfl, by have g1 : ((t <<< ((24 : Int32) &&& 63).toInt64).toInt - t.toInt * 16777216) % 18446744073709551616 = 0 := c_lshl t (24 : Int32) 24 (by decide); have g2 := own_r64 (t <<< ((24 : Int32) &&& 63).toInt64); unfold valF; rw [if_neg (by omega), show (x.toInt / 1024).toNat - 1 = 24 by omega, show (2 : Int) ^ 24 = 16777216 from by decide]; omega⟩
theorem val_17_25 {l : Launch} {Z : State} {a0 : Array Value} (hw : HW Z a0) {n0 : Nat} {h : Heap} (x : Int32) (h1 : 2048 ≤ x.toInt) (h2 : x.toInt / 1024 = 26) (h3 : x.toInt ≤ 54272) : WP l B5 Z n0 (fun v h' => h = h' ∧ ∃ r : Int64, v = some (.long r) ∧ r.toInt = valF x.toInt) h 0 0 17 #[.val (.int x), .val (.int (25 : Int32)), .unset, .unset] [] := by
  have k32_25 : (25 : Int32).toInt = 25 := by decide
  have k32_1023 : (1023 : Int32).toInt = 1023 := by decide
  have k32_1024 : (1024 : Int32).toInt = 1024 := by decide
  refine WP.iloadN d5_17 rfl (pc' := 18) rfl ?_
  refine WP.sipush d5_18 (z := (1023 : Int32)) rfl (pc' := 21) rfl ?_
  refine WP.iand d5_21 (pc' := 22) rfl ?_
  refine WP.sipush d5_22 (z := (1024 : Int32)) rfl (pc' := 25) rfl ?_
  refine WP.iadd d5_25 (pc' := 26) rfl ?_
  refine WP.i2l d5_26 (pc' := 27) rfl ?_
  obtain ⟨t, e_t⟩ : ∃ z, z = ((x &&& (1023 : Int32)) + (1024 : Int32)).toInt64 := ⟨_, rfl⟩
  rw [← e_t]
  refine WP.lstoreN d5_27 (pc' := 28) rfl (ls' := #[.val (.int x), .val (.int (25 : Int32)), .val (.long t), .second]) rfl ?_
  have f1 : (x &&& (1023 : Int32)).toInt = x.toInt % 1024 := own_mask _ _ 10 _ (by decide) (by decide) (by decide)
  have f2 : ((x &&& (1023 : Int32)) + (1024 : Int32)).toInt = x.toInt % 1024 + 1024 := by rw [own_iadd] <;> omega
  have f3 := c_i2l ((x &&& (1023 : Int32)) + (1024 : Int32))
  rw [← e_t] at f3
  refine WP.lloadN d5_28 rfl (pc' := 29) rfl ?_
  refine WP.iloadN d5_29 rfl (pc' := 30) rfl ?_
  refine WP.lshl d5_30 (pc' := 31) rfl ?_
  exact WP.retJ d5_31 rfl (by decide) (by decide) ⟨rfl, _, rfl, by have g1 : ((t <<< ((25 : Int32) &&& 63).toInt64).toInt - t.toInt * 33554432) % 18446744073709551616 = 0 := c_lshl t (25 : Int32) 25 (by decide); have g2 := own_r64 (t <<< ((25 : Int32) &&& 63).toInt64); unfold valF; rw [if_neg (by omega), show (x.toInt / 1024).toNat - 1 = 25 by omega, show (2 : Int) ^ 25 = 33554432 from by decide]; omega⟩
theorem val_17_26 {l : Launch} {Z : State} {a0 : Array Value} (hw : HW Z a0) {n0 : Nat} {h : Heap} (x : Int32) (h1 : 2048 ≤ x.toInt) (h2 : x.toInt / 1024 = 27) (h3 : x.toInt ≤ 54272) : WP l B5 Z n0 (fun v h' => h = h' ∧ ∃ r : Int64, v = some (.long r) ∧ r.toInt = valF x.toInt) h 0 0 17 #[.val (.int x), .val (.int (26 : Int32)), .unset, .unset] [] := by
  have k32_26 : (26 : Int32).toInt = 26 := by decide
  have k32_1023 : (1023 : Int32).toInt = 1023 := by decide
  have k32_1024 : (1024 : Int32).toInt = 1024 := by decide
  refine WP.iloadN d5_17 rfl (pc' := 18) rfl ?_
  refine WP.sipush d5_18 (z := (1023 : Int32)) rfl (pc' := 21) rfl ?_
  refine WP.iand d5_21 (pc' := 22) rfl ?_
  refine WP.sipush d5_22 (z := (1024 : Int32)) rfl (pc' := 25) rfl ?_
  refine WP.iadd d5_25 (pc' := 26) rfl ?_
  refine WP.i2l d5_26 (pc' := 27) rfl ?_
  obtain ⟨t, e_t⟩ : ∃ z, z = ((x &&& (1023 : Int32)) + (1024 : Int32)).toInt64 := ⟨_, rfl⟩
  rw [← e_t]
  refine WP.lstoreN d5_27 (pc' := 28) rfl (ls' := #[.val (.int x), .val (.int (26 : Int32)), .val (.long t), .second]) rfl ?_
  have f1 : (x &&& (1023 : Int32)).toInt = x.toInt % 1024 := own_mask _ _ 10 _ (by decide) (by decide) (by decide)
  have f2 : ((x &&& (1023 : Int32)) + (1024 : Int32)).toInt = x.toInt % 1024 + 1024 := by rw [own_iadd] <;> omega
  have f3 := c_i2l ((x &&& (1023 : Int32)) + (1024 : Int32))
  rw [← e_t] at f3
  refine WP.lloadN d5_28 rfl (pc' := 29) rfl ?_
  refine WP.iloadN d5_29 rfl (pc' := 30) rfl ?_
  refine WP.lshl d5_30 (pc' := 31) rfl ?_
  exact WP.retJ d5_31 rfl (by decide) (by decide) ⟨rfl, _, rfl, by have g1 : ((t <<< ((26 : Int32) &&& 63).toInt64).toInt - t.toInt * 67108864) % 18446744073709551616 = 0 := c_lshl t (26 : Int32) 26 (by decide); have g2 := own_r64 (t <<< ((26 : Int32) &&& 63).toInt64); unfold valF; rw [if_neg (by omega), show (x.toInt / 1024).toNat - 1 = 26 by omega, show (2 : Int) ^ 26 = 67108864 from by decide]; omega⟩
theorem val_17_27 {l : Launch} {Z : State} {a0 : Array Value} (hw : HW Z a0) {n0 : Nat} {h : Heap} (x : Int32) (h1 : 2048 ≤ x.toInt) (h2 : x.toInt / 1024 = 28) (h3 : x.toInt ≤ 54272) : WP l B5 Z n0 (fun v h' => h = h' ∧ ∃ r : Int64, v = some (.long r) ∧ r.toInt = valF x.toInt) h 0 0 17 #[.val (.int x), .val (.int (27 : Int32)), .unset, .unset] [] := by
  have k32_27 : (27 : Int32).toInt = 27 := by decide
  have k32_1023 : (1023 : Int32).toInt = 1023 := by decide
  have k32_1024 : (1024 : Int32).toInt = 1024 := by decide
  refine WP.iloadN d5_17 rfl (pc' := 18) rfl ?_
  refine WP.sipush d5_18 (z := (1023 : Int32)) rfl (pc' := 21) rfl ?_
  refine WP.iand d5_21 (pc' := 22) rfl ?_
  refine WP.sipush d5_22 (z := (1024 : Int32)) rfl (pc' := 25) rfl ?_
  refine WP.iadd d5_25 (pc' := 26) rfl ?_
  refine WP.i2l d5_26 (pc' := 27) rfl ?_
  obtain ⟨t, e_t⟩ : ∃ z, z = ((x &&& (1023 : Int32)) + (1024 : Int32)).toInt64 := ⟨_, rfl⟩
  rw [← e_t]
  refine WP.lstoreN d5_27 (pc' := 28) rfl (ls' := #[.val (.int x), .val (.int (27 : Int32)), .val (.long t), .second]) rfl ?_
  have f1 : (x &&& (1023 : Int32)).toInt = x.toInt % 1024 := own_mask _ _ 10 _ (by decide) (by decide) (by decide)
  have f2 : ((x &&& (1023 : Int32)) + (1024 : Int32)).toInt = x.toInt % 1024 + 1024 := by rw [own_iadd] <;> omega
  have f3 := c_i2l ((x &&& (1023 : Int32)) + (1024 : Int32))
  rw [← e_t] at f3
  refine WP.lloadN d5_28 rfl (pc' := 29) rfl ?_
  refine WP.iloadN d5_29 rfl (pc' := 30) rfl ?_
  refine WP.lshl d5_30 (pc' := 31) rfl ?_
  exact WP.retJ d5_31 rfl (by decide) (by decide) ⟨rfl, _, rfl, by have g1 : ((t <<< ((27 : Int32) &&& 63).toInt64).toInt - t.toInt * 134217728) % 18446744073709551616 = 0 := c_lshl t (27 : Int32) 27 (by decide); have g2 := own_r64 (t <<< ((27 : Int32) &&& 63).toInt64); unfold valF; rw [if_neg (by omega), show (x.toInt / 1024).toNat - 1 = 27 by omega, show (2 : Int) ^ 27 = 134217728 from by decide]; omega⟩
theorem val_17_28 {l : Launch} {Z : State} {a0 : Array Value} (hw : HW Z a0) {n0 : Nat} {h : Heap} (x : Int32) (h1 : 2048 ≤ x.toInt) (h2 : x.toInt / 1024 = 29) (h3 : x.toInt ≤ 54272) : WP l B5 Z n0 (fun v h' => h = h' ∧ ∃ r : Int64, v = some (.long r) ∧ r.toInt = valF x.toInt) h 0 0 17 #[.val (.int x), .val (.int (28 : Int32)), .unset, .unset] [] := by
  have k32_28 : (28 : Int32).toInt = 28 := by decide
  have k32_1023 : (1023 : Int32).toInt = 1023 := by decide
  have k32_1024 : (1024 : Int32).toInt = 1024 := by decide
  refine WP.iloadN d5_17 rfl (pc' := 18) rfl ?_
  refine WP.sipush d5_18 (z := (1023 : Int32)) rfl (pc' := 21) rfl ?_
  refine WP.iand d5_21 (pc' := 22) rfl ?_
  refine WP.sipush d5_22 (z := (1024 : Int32)) rfl (pc' := 25) rfl ?_
  refine WP.iadd d5_25 (pc' := 26) rfl ?_
  refine WP.i2l d5_26 (pc' := 27) rfl ?_
  obtain ⟨t, e_t⟩ : ∃ z, z = ((x &&& (1023 : Int32)) + (1024 : Int32)).toInt64 := ⟨_, rfl⟩
  rw [← e_t]
  refine WP.lstoreN d5_27 (pc' := 28) rfl (ls' := #[.val (.int x), .val (.int (28 : Int32)), .val (.long t), .second]) rfl ?_
  have f1 : (x &&& (1023 : Int32)).toInt = x.toInt % 1024 := own_mask _ _ 10 _ (by decide) (by decide) (by decide)
  have f2 : ((x &&& (1023 : Int32)) + (1024 : Int32)).toInt = x.toInt % 1024 + 1024 := by rw [own_iadd] <;> omega
  have f3 := c_i2l ((x &&& (1023 : Int32)) + (1024 : Int32))
  rw [← e_t] at f3
  refine WP.lloadN d5_28 rfl (pc' := 29) rfl ?_
  refine WP.iloadN d5_29 rfl (pc' := 30) rfl ?_
  refine WP.lshl d5_30 (pc' := 31) rfl ?_
  exact WP.retJ d5_31 rfl (by decide) (by decide) ⟨rfl, _, rfl, by have g1 : ((t <<< ((28 : Int32) &&& 63).toInt64).toInt - t.toInt * 268435456) % 18446744073709551616 = 0 := c_lshl t (28 : Int32) 28 (by decide); have g2 := own_r64 (t <<< ((28 : Int32) &&& 63).toInt64); unfold valF; rw [if_neg (by omega), show (x.toInt / 1024).toNat - 1 = 28 by omega, show (2 : Int) ^ 28 = 268435456 from by decide]; omega⟩
theorem val_17_29 {l : Launch} {Z : State} {a0 : Array Value} (hw : HW Z a0) {n0 : Nat} {h : Heap} (x : Int32) (h1 : 2048 ≤ x.toInt) (h2 : x.toInt / 1024 = 30) (h3 : x.toInt ≤ 54272) : WP l B5 Z n0 (fun v h' => h = h' ∧ ∃ r : Int64, v = some (.long r) ∧ r.toInt = valF x.toInt) h 0 0 17 #[.val (.int x), .val (.int (29 : Int32)), .unset, .unset] [] := by
  have k32_29 : (29 : Int32).toInt = 29 := by decide
  have k32_1023 : (1023 : Int32).toInt = 1023 := by decide
  have k32_1024 : (1024 : Int32).toInt = 1024 := by decide
  refine WP.iloadN d5_17 rfl (pc' := 18) rfl ?_
  refine WP.sipush d5_18 (z := (1023 : Int32)) rfl (pc' := 21) rfl ?_
  refine WP.iand d5_21 (pc' := 22) rfl ?_
  refine WP.sipush d5_22 (z := (1024 : Int32)) rfl (pc' := 25) rfl ?_
  refine WP.iadd d5_25 (pc' := 26) rfl ?_
  refine WP.i2l d5_26 (pc' := 27) rfl ?_
  obtain ⟨t, e_t⟩ : ∃ z, z = ((x &&& (1023 : Int32)) + (1024 : Int32)).toInt64 := ⟨_, rfl⟩
  rw [← e_t]
  refine WP.lstoreN d5_27 (pc' := 28) rfl (ls' := #[.val (.int x), .val (.int (29 : Int32)), .val (.long t), .second]) rfl ?_
  have f1 : (x &&& (1023 : Int32)).toInt = x.toInt % 1024 := own_mask _ _ 10 _ (by decide) (by decide) (by decide)
  have f2 : ((x &&& (1023 : Int32)) + (1024 : Int32)).toInt = x.toInt % 1024 + 1024 := by rw [own_iadd] <;> omega
  have f3 := c_i2l ((x &&& (1023 : Int32)) + (1024 : Int32))
  rw [← e_t] at f3
  refine WP.lloadN d5_28 rfl (pc' := 29) rfl ?_
  refine WP.iloadN d5_29 rfl (pc' := 30) rfl ?_
  refine WP.lshl d5_30 (pc' := 31) rfl ?_
  exact WP.retJ d5_31 rfl (by decide) (by decide) ⟨rfl, _, rfl, by have g1 : ((t <<< ((29 : Int32) &&& 63).toInt64).toInt - t.toInt * 536870912) % 18446744073709551616 = 0 := c_lshl t (29 : Int32) 29 (by decide); have g2 := own_r64 (t <<< ((29 : Int32) &&& 63).toInt64); unfold valF; rw [if_neg (by omega), show (x.toInt / 1024).toNat - 1 = 29 by omega, show (2 : Int) ^ 29 = 536870912 from by decide]; omega⟩
theorem val_17_30 {l : Launch} {Z : State} {a0 : Array Value} (hw : HW Z a0) {n0 : Nat} {h : Heap} (x : Int32) (h1 : 2048 ≤ x.toInt) (h2 : x.toInt / 1024 = 31) (h3 : x.toInt ≤ 54272) : WP l B5 Z n0 (fun v h' => h = h' ∧ ∃ r : Int64, v = some (.long r) ∧ r.toInt = valF x.toInt) h 0 0 17 #[.val (.int x), .val (.int (30 : Int32)), .unset, .unset] [] := by
  have k32_30 : (30 : Int32).toInt = 30 := by decide
  have k32_1023 : (1023 : Int32).toInt = 1023 := by decide
  have k32_1024 : (1024 : Int32).toInt = 1024 := by decide
  refine WP.iloadN d5_17 rfl (pc' := 18) rfl ?_
  refine WP.sipush d5_18 (z := (1023 : Int32)) rfl (pc' := 21) rfl ?_
  refine WP.iand d5_21 (pc' := 22) rfl ?_
  refine WP.sipush d5_22 (z := (1024 : Int32)) rfl (pc' := 25) rfl ?_
  refine WP.iadd d5_25 (pc' := 26) rfl ?_
  refine WP.i2l d5_26 (pc' := 27) rfl ?_
  obtain ⟨t, e_t⟩ : ∃ z, z = ((x &&& (1023 : Int32)) + (1024 : Int32)).toInt64 := ⟨_, rfl⟩
  rw [← e_t]
  refine WP.lstoreN d5_27 (pc' := 28) rfl (ls' := #[.val (.int x), .val (.int (30 : Int32)), .val (.long t), .second]) rfl ?_
  have f1 : (x &&& (1023 : Int32)).toInt = x.toInt % 1024 := own_mask _ _ 10 _ (by decide) (by decide) (by decide)
  have f2 : ((x &&& (1023 : Int32)) + (1024 : Int32)).toInt = x.toInt % 1024 + 1024 := by rw [own_iadd] <;> omega
  have f3 := c_i2l ((x &&& (1023 : Int32)) + (1024 : Int32))
  rw [← e_t] at f3
  refine WP.lloadN d5_28 rfl (pc' := 29) rfl ?_
  refine WP.iloadN d5_29 rfl (pc' := 30) rfl ?_
  refine WP.lshl d5_30 (pc' := 31) rfl ?_
  exact WP.retJ d5_31 rfl (by decide) (by decide) ⟨rfl, _, rfl, by have g1 : ((t <<< ((30 : Int32) &&& 63).toInt64).toInt - t.toInt * 1073741824) % 18446744073709551616 = 0 := c_lshl t (30 : Int32) 30 (by decide); have g2 := own_r64 (t <<< ((30 : Int32) &&& 63).toInt64); unfold valF; rw [if_neg (by omega), show (x.toInt / 1024).toNat - 1 = 30 by omega, show (2 : Int) ^ 30 = 1073741824 from by decide]; omega⟩
theorem val_17_31 {l : Launch} {Z : State} {a0 : Array Value} (hw : HW Z a0) {n0 : Nat} {h : Heap} (x : Int32) (h1 : 2048 ≤ x.toInt) (h2 : x.toInt / 1024 = 32) (h3 : x.toInt ≤ 54272) : WP l B5 Z n0 (fun v h' => h = h' ∧ ∃ r : Int64, v = some (.long r) ∧ r.toInt = valF x.toInt) h 0 0 17 #[.val (.int x), .val (.int (31 : Int32)), .unset, .unset] [] := by
  have k32_31 : (31 : Int32).toInt = 31 := by decide
  have k32_1023 : (1023 : Int32).toInt = 1023 := by decide
  have k32_1024 : (1024 : Int32).toInt = 1024 := by decide
  refine WP.iloadN d5_17 rfl (pc' := 18) rfl ?_
  refine WP.sipush d5_18 (z := (1023 : Int32)) rfl (pc' := 21) rfl ?_
  refine WP.iand d5_21 (pc' := 22) rfl ?_
  refine WP.sipush d5_22 (z := (1024 : Int32)) rfl (pc' := 25) rfl ?_
  refine WP.iadd d5_25 (pc' := 26) rfl ?_
  refine WP.i2l d5_26 (pc' := 27) rfl ?_
  obtain ⟨t, e_t⟩ : ∃ z, z = ((x &&& (1023 : Int32)) + (1024 : Int32)).toInt64 := ⟨_, rfl⟩
  rw [← e_t]
  refine WP.lstoreN d5_27 (pc' := 28) rfl (ls' := #[.val (.int x), .val (.int (31 : Int32)), .val (.long t), .second]) rfl ?_
  have f1 : (x &&& (1023 : Int32)).toInt = x.toInt % 1024 := own_mask _ _ 10 _ (by decide) (by decide) (by decide)
  have f2 : ((x &&& (1023 : Int32)) + (1024 : Int32)).toInt = x.toInt % 1024 + 1024 := by rw [own_iadd] <;> omega
  have f3 := c_i2l ((x &&& (1023 : Int32)) + (1024 : Int32))
  rw [← e_t] at f3
  refine WP.lloadN d5_28 rfl (pc' := 29) rfl ?_
  refine WP.iloadN d5_29 rfl (pc' := 30) rfl ?_
  refine WP.lshl d5_30 (pc' := 31) rfl ?_
  exact WP.retJ d5_31 rfl (by decide) (by decide) ⟨rfl, _, rfl, by have g1 : ((t <<< ((31 : Int32) &&& 63).toInt64).toInt - t.toInt * 2147483648) % 18446744073709551616 = 0 := c_lshl t (31 : Int32) 31 (by decide); have g2 := own_r64 (t <<< ((31 : Int32) &&& 63).toInt64); unfold valF; rw [if_neg (by omega), show (x.toInt / 1024).toNat - 1 = 31 by omega, show (2 : Int) ^ 31 = 2147483648 from by decide]; omega⟩
theorem val_17_32 {l : Launch} {Z : State} {a0 : Array Value} (hw : HW Z a0) {n0 : Nat} {h : Heap} (x : Int32) (h1 : 2048 ≤ x.toInt) (h2 : x.toInt / 1024 = 33) (h3 : x.toInt ≤ 54272) : WP l B5 Z n0 (fun v h' => h = h' ∧ ∃ r : Int64, v = some (.long r) ∧ r.toInt = valF x.toInt) h 0 0 17 #[.val (.int x), .val (.int (32 : Int32)), .unset, .unset] [] := by
  have k32_32 : (32 : Int32).toInt = 32 := by decide
  have k32_1023 : (1023 : Int32).toInt = 1023 := by decide
  have k32_1024 : (1024 : Int32).toInt = 1024 := by decide
  refine WP.iloadN d5_17 rfl (pc' := 18) rfl ?_
  refine WP.sipush d5_18 (z := (1023 : Int32)) rfl (pc' := 21) rfl ?_
  refine WP.iand d5_21 (pc' := 22) rfl ?_
  refine WP.sipush d5_22 (z := (1024 : Int32)) rfl (pc' := 25) rfl ?_
  refine WP.iadd d5_25 (pc' := 26) rfl ?_
  refine WP.i2l d5_26 (pc' := 27) rfl ?_
  obtain ⟨t, e_t⟩ : ∃ z, z = ((x &&& (1023 : Int32)) + (1024 : Int32)).toInt64 := ⟨_, rfl⟩
  rw [← e_t]
  refine WP.lstoreN d5_27 (pc' := 28) rfl (ls' := #[.val (.int x), .val (.int (32 : Int32)), .val (.long t), .second]) rfl ?_
  have f1 : (x &&& (1023 : Int32)).toInt = x.toInt % 1024 := own_mask _ _ 10 _ (by decide) (by decide) (by decide)
  have f2 : ((x &&& (1023 : Int32)) + (1024 : Int32)).toInt = x.toInt % 1024 + 1024 := by rw [own_iadd] <;> omega
  have f3 := c_i2l ((x &&& (1023 : Int32)) + (1024 : Int32))
  rw [← e_t] at f3
  refine WP.lloadN d5_28 rfl (pc' := 29) rfl ?_
  refine WP.iloadN d5_29 rfl (pc' := 30) rfl ?_
  refine WP.lshl d5_30 (pc' := 31) rfl ?_
  exact WP.retJ d5_31 rfl (by decide) (by decide) ⟨rfl, _, rfl, by have g1 : ((t <<< ((32 : Int32) &&& 63).toInt64).toInt - t.toInt * 4294967296) % 18446744073709551616 = 0 := c_lshl t (32 : Int32) 32 (by decide); have g2 := own_r64 (t <<< ((32 : Int32) &&& 63).toInt64); unfold valF; rw [if_neg (by omega), show (x.toInt / 1024).toNat - 1 = 32 by omega, show (2 : Int) ^ 32 = 4294967296 from by decide]; omega⟩
theorem val_17_33 {l : Launch} {Z : State} {a0 : Array Value} (hw : HW Z a0) {n0 : Nat} {h : Heap} (x : Int32) (h1 : 2048 ≤ x.toInt) (h2 : x.toInt / 1024 = 34) (h3 : x.toInt ≤ 54272) : WP l B5 Z n0 (fun v h' => h = h' ∧ ∃ r : Int64, v = some (.long r) ∧ r.toInt = valF x.toInt) h 0 0 17 #[.val (.int x), .val (.int (33 : Int32)), .unset, .unset] [] := by
  have k32_33 : (33 : Int32).toInt = 33 := by decide
  have k32_1023 : (1023 : Int32).toInt = 1023 := by decide
  have k32_1024 : (1024 : Int32).toInt = 1024 := by decide
  refine WP.iloadN d5_17 rfl (pc' := 18) rfl ?_
  refine WP.sipush d5_18 (z := (1023 : Int32)) rfl (pc' := 21) rfl ?_
  refine WP.iand d5_21 (pc' := 22) rfl ?_
  refine WP.sipush d5_22 (z := (1024 : Int32)) rfl (pc' := 25) rfl ?_
  refine WP.iadd d5_25 (pc' := 26) rfl ?_
  refine WP.i2l d5_26 (pc' := 27) rfl ?_
  obtain ⟨t, e_t⟩ : ∃ z, z = ((x &&& (1023 : Int32)) + (1024 : Int32)).toInt64 := ⟨_, rfl⟩
  rw [← e_t]
  refine WP.lstoreN d5_27 (pc' := 28) rfl (ls' := #[.val (.int x), .val (.int (33 : Int32)), .val (.long t), .second]) rfl ?_
  have f1 : (x &&& (1023 : Int32)).toInt = x.toInt % 1024 := own_mask _ _ 10 _ (by decide) (by decide) (by decide)
  have f2 : ((x &&& (1023 : Int32)) + (1024 : Int32)).toInt = x.toInt % 1024 + 1024 := by rw [own_iadd] <;> omega
  have f3 := c_i2l ((x &&& (1023 : Int32)) + (1024 : Int32))
  rw [← e_t] at f3
  refine WP.lloadN d5_28 rfl (pc' := 29) rfl ?_
  refine WP.iloadN d5_29 rfl (pc' := 30) rfl ?_
  refine WP.lshl d5_30 (pc' := 31) rfl ?_
  exact WP.retJ d5_31 rfl (by decide) (by decide) ⟨rfl, _, rfl, by have g1 : ((t <<< ((33 : Int32) &&& 63).toInt64).toInt - t.toInt * 8589934592) % 18446744073709551616 = 0 := c_lshl t (33 : Int32) 33 (by decide); have g2 := own_r64 (t <<< ((33 : Int32) &&& 63).toInt64); unfold valF; rw [if_neg (by omega), show (x.toInt / 1024).toNat - 1 = 33 by omega, show (2 : Int) ^ 33 = 8589934592 from by decide]; omega⟩
theorem val_17_34 {l : Launch} {Z : State} {a0 : Array Value} (hw : HW Z a0) {n0 : Nat} {h : Heap} (x : Int32) (h1 : 2048 ≤ x.toInt) (h2 : x.toInt / 1024 = 35) (h3 : x.toInt ≤ 54272) : WP l B5 Z n0 (fun v h' => h = h' ∧ ∃ r : Int64, v = some (.long r) ∧ r.toInt = valF x.toInt) h 0 0 17 #[.val (.int x), .val (.int (34 : Int32)), .unset, .unset] [] := by
  have k32_34 : (34 : Int32).toInt = 34 := by decide
  have k32_1023 : (1023 : Int32).toInt = 1023 := by decide
  have k32_1024 : (1024 : Int32).toInt = 1024 := by decide
  refine WP.iloadN d5_17 rfl (pc' := 18) rfl ?_
  refine WP.sipush d5_18 (z := (1023 : Int32)) rfl (pc' := 21) rfl ?_
  refine WP.iand d5_21 (pc' := 22) rfl ?_
  refine WP.sipush d5_22 (z := (1024 : Int32)) rfl (pc' := 25) rfl ?_
  refine WP.iadd d5_25 (pc' := 26) rfl ?_
  refine WP.i2l d5_26 (pc' := 27) rfl ?_
  obtain ⟨t, e_t⟩ : ∃ z, z = ((x &&& (1023 : Int32)) + (1024 : Int32)).toInt64 := ⟨_, rfl⟩
  rw [← e_t]
  refine WP.lstoreN d5_27 (pc' := 28) rfl (ls' := #[.val (.int x), .val (.int (34 : Int32)), .val (.long t), .second]) rfl ?_
  have f1 : (x &&& (1023 : Int32)).toInt = x.toInt % 1024 := own_mask _ _ 10 _ (by decide) (by decide) (by decide)
  have f2 : ((x &&& (1023 : Int32)) + (1024 : Int32)).toInt = x.toInt % 1024 + 1024 := by rw [own_iadd] <;> omega
  have f3 := c_i2l ((x &&& (1023 : Int32)) + (1024 : Int32))
  rw [← e_t] at f3
  refine WP.lloadN d5_28 rfl (pc' := 29) rfl ?_
  refine WP.iloadN d5_29 rfl (pc' := 30) rfl ?_
  refine WP.lshl d5_30 (pc' := 31) rfl ?_
  exact WP.retJ d5_31 rfl (by decide) (by decide) ⟨rfl, _, rfl, by have g1 : ((t <<< ((34 : Int32) &&& 63).toInt64).toInt - t.toInt * 17179869184) % 18446744073709551616 = 0 := c_lshl t (34 : Int32) 34 (by decide); have g2 := own_r64 (t <<< ((34 : Int32) &&& 63).toInt64); unfold valF; rw [if_neg (by omega), show (x.toInt / 1024).toNat - 1 = 34 by omega, show (2 : Int) ^ 34 = 17179869184 from by decide]; omega⟩
theorem val_17_35 {l : Launch} {Z : State} {a0 : Array Value} (hw : HW Z a0) {n0 : Nat} {h : Heap} (x : Int32) (h1 : 2048 ≤ x.toInt) (h2 : x.toInt / 1024 = 36) (h3 : x.toInt ≤ 54272) : WP l B5 Z n0 (fun v h' => h = h' ∧ ∃ r : Int64, v = some (.long r) ∧ r.toInt = valF x.toInt) h 0 0 17 #[.val (.int x), .val (.int (35 : Int32)), .unset, .unset] [] := by
  have k32_35 : (35 : Int32).toInt = 35 := by decide
  have k32_1023 : (1023 : Int32).toInt = 1023 := by decide
  have k32_1024 : (1024 : Int32).toInt = 1024 := by decide
  refine WP.iloadN d5_17 rfl (pc' := 18) rfl ?_
  refine WP.sipush d5_18 (z := (1023 : Int32)) rfl (pc' := 21) rfl ?_
  refine WP.iand d5_21 (pc' := 22) rfl ?_
  refine WP.sipush d5_22 (z := (1024 : Int32)) rfl (pc' := 25) rfl ?_
  refine WP.iadd d5_25 (pc' := 26) rfl ?_
  refine WP.i2l d5_26 (pc' := 27) rfl ?_
  obtain ⟨t, e_t⟩ : ∃ z, z = ((x &&& (1023 : Int32)) + (1024 : Int32)).toInt64 := ⟨_, rfl⟩
  rw [← e_t]
  refine WP.lstoreN d5_27 (pc' := 28) rfl (ls' := #[.val (.int x), .val (.int (35 : Int32)), .val (.long t), .second]) rfl ?_
  have f1 : (x &&& (1023 : Int32)).toInt = x.toInt % 1024 := own_mask _ _ 10 _ (by decide) (by decide) (by decide)
  have f2 : ((x &&& (1023 : Int32)) + (1024 : Int32)).toInt = x.toInt % 1024 + 1024 := by rw [own_iadd] <;> omega
  have f3 := c_i2l ((x &&& (1023 : Int32)) + (1024 : Int32))
  rw [← e_t] at f3
  refine WP.lloadN d5_28 rfl (pc' := 29) rfl ?_
  refine WP.iloadN d5_29 rfl (pc' := 30) rfl ?_
  refine WP.lshl d5_30 (pc' := 31) rfl ?_
  exact WP.retJ d5_31 rfl (by decide) (by decide) ⟨rfl, _, rfl, by have g1 : ((t <<< ((35 : Int32) &&& 63).toInt64).toInt - t.toInt * 34359738368) % 18446744073709551616 = 0 := c_lshl t (35 : Int32) 35 (by decide); have g2 := own_r64 (t <<< ((35 : Int32) &&& 63).toInt64); unfold valF; rw [if_neg (by omega), show (x.toInt / 1024).toNat - 1 = 35 by omega, show (2 : Int) ^ 35 = 34359738368 from by decide]; omega⟩
theorem val_17_36 {l : Launch} {Z : State} {a0 : Array Value} (hw : HW Z a0) {n0 : Nat} {h : Heap} (x : Int32) (h1 : 2048 ≤ x.toInt) (h2 : x.toInt / 1024 = 37) (h3 : x.toInt ≤ 54272) : WP l B5 Z n0 (fun v h' => h = h' ∧ ∃ r : Int64, v = some (.long r) ∧ r.toInt = valF x.toInt) h 0 0 17 #[.val (.int x), .val (.int (36 : Int32)), .unset, .unset] [] := by
  have k32_36 : (36 : Int32).toInt = 36 := by decide
  have k32_1023 : (1023 : Int32).toInt = 1023 := by decide
  have k32_1024 : (1024 : Int32).toInt = 1024 := by decide
  refine WP.iloadN d5_17 rfl (pc' := 18) rfl ?_
  refine WP.sipush d5_18 (z := (1023 : Int32)) rfl (pc' := 21) rfl ?_
  refine WP.iand d5_21 (pc' := 22) rfl ?_
  refine WP.sipush d5_22 (z := (1024 : Int32)) rfl (pc' := 25) rfl ?_
  refine WP.iadd d5_25 (pc' := 26) rfl ?_
  refine WP.i2l d5_26 (pc' := 27) rfl ?_
  obtain ⟨t, e_t⟩ : ∃ z, z = ((x &&& (1023 : Int32)) + (1024 : Int32)).toInt64 := ⟨_, rfl⟩
  rw [← e_t]
  refine WP.lstoreN d5_27 (pc' := 28) rfl (ls' := #[.val (.int x), .val (.int (36 : Int32)), .val (.long t), .second]) rfl ?_
  have f1 : (x &&& (1023 : Int32)).toInt = x.toInt % 1024 := own_mask _ _ 10 _ (by decide) (by decide) (by decide)
  have f2 : ((x &&& (1023 : Int32)) + (1024 : Int32)).toInt = x.toInt % 1024 + 1024 := by rw [own_iadd] <;> omega
  have f3 := c_i2l ((x &&& (1023 : Int32)) + (1024 : Int32))
  rw [← e_t] at f3
  refine WP.lloadN d5_28 rfl (pc' := 29) rfl ?_
  refine WP.iloadN d5_29 rfl (pc' := 30) rfl ?_
  refine WP.lshl d5_30 (pc' := 31) rfl ?_
  exact WP.retJ d5_31 rfl (by decide) (by decide) ⟨rfl, _, rfl, by have g1 : ((t <<< ((36 : Int32) &&& 63).toInt64).toInt - t.toInt * 68719476736) % 18446744073709551616 = 0 := c_lshl t (36 : Int32) 36 (by decide); have g2 := own_r64 (t <<< ((36 : Int32) &&& 63).toInt64); unfold valF; rw [if_neg (by omega), show (x.toInt / 1024).toNat - 1 = 36 by omega, show (2 : Int) ^ 36 = 68719476736 from by decide]; omega⟩
theorem val_17_37 {l : Launch} {Z : State} {a0 : Array Value} (hw : HW Z a0) {n0 : Nat} {h : Heap} (x : Int32) (h1 : 2048 ≤ x.toInt) (h2 : x.toInt / 1024 = 38) (h3 : x.toInt ≤ 54272) : WP l B5 Z n0 (fun v h' => h = h' ∧ ∃ r : Int64, v = some (.long r) ∧ r.toInt = valF x.toInt) h 0 0 17 #[.val (.int x), .val (.int (37 : Int32)), .unset, .unset] [] := by
  have k32_37 : (37 : Int32).toInt = 37 := by decide
  have k32_1023 : (1023 : Int32).toInt = 1023 := by decide
  have k32_1024 : (1024 : Int32).toInt = 1024 := by decide
  refine WP.iloadN d5_17 rfl (pc' := 18) rfl ?_
  refine WP.sipush d5_18 (z := (1023 : Int32)) rfl (pc' := 21) rfl ?_
  refine WP.iand d5_21 (pc' := 22) rfl ?_
  refine WP.sipush d5_22 (z := (1024 : Int32)) rfl (pc' := 25) rfl ?_
  refine WP.iadd d5_25 (pc' := 26) rfl ?_
  refine WP.i2l d5_26 (pc' := 27) rfl ?_
  obtain ⟨t, e_t⟩ : ∃ z, z = ((x &&& (1023 : Int32)) + (1024 : Int32)).toInt64 := ⟨_, rfl⟩
  rw [← e_t]
  refine WP.lstoreN d5_27 (pc' := 28) rfl (ls' := #[.val (.int x), .val (.int (37 : Int32)), .val (.long t), .second]) rfl ?_
  have f1 : (x &&& (1023 : Int32)).toInt = x.toInt % 1024 := own_mask _ _ 10 _ (by decide) (by decide) (by decide)
  have f2 : ((x &&& (1023 : Int32)) + (1024 : Int32)).toInt = x.toInt % 1024 + 1024 := by rw [own_iadd] <;> omega
  have f3 := c_i2l ((x &&& (1023 : Int32)) + (1024 : Int32))
  rw [← e_t] at f3
  refine WP.lloadN d5_28 rfl (pc' := 29) rfl ?_
  refine WP.iloadN d5_29 rfl (pc' := 30) rfl ?_
  refine WP.lshl d5_30 (pc' := 31) rfl ?_
  exact WP.retJ d5_31 rfl (by decide) (by decide) ⟨rfl, _, rfl, by have g1 : ((t <<< ((37 : Int32) &&& 63).toInt64).toInt - t.toInt * 137438953472) % 18446744073709551616 = 0 := c_lshl t (37 : Int32) 37 (by decide); have g2 := own_r64 (t <<< ((37 : Int32) &&& 63).toInt64); unfold valF; rw [if_neg (by omega), show (x.toInt / 1024).toNat - 1 = 37 by omega, show (2 : Int) ^ 37 = 137438953472 from by decide]; omega⟩
theorem val_17_38 {l : Launch} {Z : State} {a0 : Array Value} (hw : HW Z a0) {n0 : Nat} {h : Heap} (x : Int32) (h1 : 2048 ≤ x.toInt) (h2 : x.toInt / 1024 = 39) (h3 : x.toInt ≤ 54272) : WP l B5 Z n0 (fun v h' => h = h' ∧ ∃ r : Int64, v = some (.long r) ∧ r.toInt = valF x.toInt) h 0 0 17 #[.val (.int x), .val (.int (38 : Int32)), .unset, .unset] [] := by
  have k32_38 : (38 : Int32).toInt = 38 := by decide
  have k32_1023 : (1023 : Int32).toInt = 1023 := by decide
  have k32_1024 : (1024 : Int32).toInt = 1024 := by decide
  refine WP.iloadN d5_17 rfl (pc' := 18) rfl ?_
  refine WP.sipush d5_18 (z := (1023 : Int32)) rfl (pc' := 21) rfl ?_
  refine WP.iand d5_21 (pc' := 22) rfl ?_
  refine WP.sipush d5_22 (z := (1024 : Int32)) rfl (pc' := 25) rfl ?_
  refine WP.iadd d5_25 (pc' := 26) rfl ?_
  refine WP.i2l d5_26 (pc' := 27) rfl ?_
  obtain ⟨t, e_t⟩ : ∃ z, z = ((x &&& (1023 : Int32)) + (1024 : Int32)).toInt64 := ⟨_, rfl⟩
  rw [← e_t]
  refine WP.lstoreN d5_27 (pc' := 28) rfl (ls' := #[.val (.int x), .val (.int (38 : Int32)), .val (.long t), .second]) rfl ?_
  have f1 : (x &&& (1023 : Int32)).toInt = x.toInt % 1024 := own_mask _ _ 10 _ (by decide) (by decide) (by decide)
  have f2 : ((x &&& (1023 : Int32)) + (1024 : Int32)).toInt = x.toInt % 1024 + 1024 := by rw [own_iadd] <;> omega
  have f3 := c_i2l ((x &&& (1023 : Int32)) + (1024 : Int32))
  rw [← e_t] at f3
  refine WP.lloadN d5_28 rfl (pc' := 29) rfl ?_
  refine WP.iloadN d5_29 rfl (pc' := 30) rfl ?_
  refine WP.lshl d5_30 (pc' := 31) rfl ?_
  exact WP.retJ d5_31 rfl (by decide) (by decide) ⟨rfl, _, rfl, by have g1 : ((t <<< ((38 : Int32) &&& 63).toInt64).toInt - t.toInt * 274877906944) % 18446744073709551616 = 0 := c_lshl t (38 : Int32) 38 (by decide); have g2 := own_r64 (t <<< ((38 : Int32) &&& 63).toInt64); unfold valF; rw [if_neg (by omega), show (x.toInt / 1024).toNat - 1 = 38 by omega, show (2 : Int) ^ 38 = 274877906944 from by decide]; omega⟩
theorem val_17_39 {l : Launch} {Z : State} {a0 : Array Value} (hw : HW Z a0) {n0 : Nat} {h : Heap} (x : Int32) (h1 : 2048 ≤ x.toInt) (h2 : x.toInt / 1024 = 40) (h3 : x.toInt ≤ 54272) : WP l B5 Z n0 (fun v h' => h = h' ∧ ∃ r : Int64, v = some (.long r) ∧ r.toInt = valF x.toInt) h 0 0 17 #[.val (.int x), .val (.int (39 : Int32)), .unset, .unset] [] := by
  have k32_39 : (39 : Int32).toInt = 39 := by decide
  have k32_1023 : (1023 : Int32).toInt = 1023 := by decide
  have k32_1024 : (1024 : Int32).toInt = 1024 := by decide
  refine WP.iloadN d5_17 rfl (pc' := 18) rfl ?_
  refine WP.sipush d5_18 (z := (1023 : Int32)) rfl (pc' := 21) rfl ?_
  refine WP.iand d5_21 (pc' := 22) rfl ?_
  refine WP.sipush d5_22 (z := (1024 : Int32)) rfl (pc' := 25) rfl ?_
  refine WP.iadd d5_25 (pc' := 26) rfl ?_
  refine WP.i2l d5_26 (pc' := 27) rfl ?_
  obtain ⟨t, e_t⟩ : ∃ z, z = ((x &&& (1023 : Int32)) + (1024 : Int32)).toInt64 := ⟨_, rfl⟩
  rw [← e_t]
  refine WP.lstoreN d5_27 (pc' := 28) rfl (ls' := #[.val (.int x), .val (.int (39 : Int32)), .val (.long t), .second]) rfl ?_
  have f1 : (x &&& (1023 : Int32)).toInt = x.toInt % 1024 := own_mask _ _ 10 _ (by decide) (by decide) (by decide)
  have f2 : ((x &&& (1023 : Int32)) + (1024 : Int32)).toInt = x.toInt % 1024 + 1024 := by rw [own_iadd] <;> omega
  have f3 := c_i2l ((x &&& (1023 : Int32)) + (1024 : Int32))
  rw [← e_t] at f3
  refine WP.lloadN d5_28 rfl (pc' := 29) rfl ?_
  refine WP.iloadN d5_29 rfl (pc' := 30) rfl ?_
  refine WP.lshl d5_30 (pc' := 31) rfl ?_
  exact WP.retJ d5_31 rfl (by decide) (by decide) ⟨rfl, _, rfl, by have g1 : ((t <<< ((39 : Int32) &&& 63).toInt64).toInt - t.toInt * 549755813888) % 18446744073709551616 = 0 := c_lshl t (39 : Int32) 39 (by decide); have g2 := own_r64 (t <<< ((39 : Int32) &&& 63).toInt64); unfold valF; rw [if_neg (by omega), show (x.toInt / 1024).toNat - 1 = 39 by omega, show (2 : Int) ^ 39 = 549755813888 from by decide]; omega⟩
theorem val_17_40 {l : Launch} {Z : State} {a0 : Array Value} (hw : HW Z a0) {n0 : Nat} {h : Heap} (x : Int32) (h1 : 2048 ≤ x.toInt) (h2 : x.toInt / 1024 = 41) (h3 : x.toInt ≤ 54272) : WP l B5 Z n0 (fun v h' => h = h' ∧ ∃ r : Int64, v = some (.long r) ∧ r.toInt = valF x.toInt) h 0 0 17 #[.val (.int x), .val (.int (40 : Int32)), .unset, .unset] [] := by
  have k32_40 : (40 : Int32).toInt = 40 := by decide
  have k32_1023 : (1023 : Int32).toInt = 1023 := by decide
  have k32_1024 : (1024 : Int32).toInt = 1024 := by decide
  refine WP.iloadN d5_17 rfl (pc' := 18) rfl ?_
  refine WP.sipush d5_18 (z := (1023 : Int32)) rfl (pc' := 21) rfl ?_
  refine WP.iand d5_21 (pc' := 22) rfl ?_
  refine WP.sipush d5_22 (z := (1024 : Int32)) rfl (pc' := 25) rfl ?_
  refine WP.iadd d5_25 (pc' := 26) rfl ?_
  refine WP.i2l d5_26 (pc' := 27) rfl ?_
  obtain ⟨t, e_t⟩ : ∃ z, z = ((x &&& (1023 : Int32)) + (1024 : Int32)).toInt64 := ⟨_, rfl⟩
  rw [← e_t]
  refine WP.lstoreN d5_27 (pc' := 28) rfl (ls' := #[.val (.int x), .val (.int (40 : Int32)), .val (.long t), .second]) rfl ?_
  have f1 : (x &&& (1023 : Int32)).toInt = x.toInt % 1024 := own_mask _ _ 10 _ (by decide) (by decide) (by decide)
  have f2 : ((x &&& (1023 : Int32)) + (1024 : Int32)).toInt = x.toInt % 1024 + 1024 := by rw [own_iadd] <;> omega
  have f3 := c_i2l ((x &&& (1023 : Int32)) + (1024 : Int32))
  rw [← e_t] at f3
  refine WP.lloadN d5_28 rfl (pc' := 29) rfl ?_
  refine WP.iloadN d5_29 rfl (pc' := 30) rfl ?_
  refine WP.lshl d5_30 (pc' := 31) rfl ?_
  exact WP.retJ d5_31 rfl (by decide) (by decide) ⟨rfl, _, rfl, by have g1 : ((t <<< ((40 : Int32) &&& 63).toInt64).toInt - t.toInt * 1099511627776) % 18446744073709551616 = 0 := c_lshl t (40 : Int32) 40 (by decide); have g2 := own_r64 (t <<< ((40 : Int32) &&& 63).toInt64); unfold valF; rw [if_neg (by omega), show (x.toInt / 1024).toNat - 1 = 40 by omega, show (2 : Int) ^ 40 = 1099511627776 from by decide]; omega⟩
theorem val_17_41 {l : Launch} {Z : State} {a0 : Array Value} (hw : HW Z a0) {n0 : Nat} {h : Heap} (x : Int32) (h1 : 2048 ≤ x.toInt) (h2 : x.toInt / 1024 = 42) (h3 : x.toInt ≤ 54272) : WP l B5 Z n0 (fun v h' => h = h' ∧ ∃ r : Int64, v = some (.long r) ∧ r.toInt = valF x.toInt) h 0 0 17 #[.val (.int x), .val (.int (41 : Int32)), .unset, .unset] [] := by
  have k32_41 : (41 : Int32).toInt = 41 := by decide
  have k32_1023 : (1023 : Int32).toInt = 1023 := by decide
  have k32_1024 : (1024 : Int32).toInt = 1024 := by decide
  refine WP.iloadN d5_17 rfl (pc' := 18) rfl ?_
  refine WP.sipush d5_18 (z := (1023 : Int32)) rfl (pc' := 21) rfl ?_
  refine WP.iand d5_21 (pc' := 22) rfl ?_
  refine WP.sipush d5_22 (z := (1024 : Int32)) rfl (pc' := 25) rfl ?_
  refine WP.iadd d5_25 (pc' := 26) rfl ?_
  refine WP.i2l d5_26 (pc' := 27) rfl ?_
  obtain ⟨t, e_t⟩ : ∃ z, z = ((x &&& (1023 : Int32)) + (1024 : Int32)).toInt64 := ⟨_, rfl⟩
  rw [← e_t]
  refine WP.lstoreN d5_27 (pc' := 28) rfl (ls' := #[.val (.int x), .val (.int (41 : Int32)), .val (.long t), .second]) rfl ?_
  have f1 : (x &&& (1023 : Int32)).toInt = x.toInt % 1024 := own_mask _ _ 10 _ (by decide) (by decide) (by decide)
  have f2 : ((x &&& (1023 : Int32)) + (1024 : Int32)).toInt = x.toInt % 1024 + 1024 := by rw [own_iadd] <;> omega
  have f3 := c_i2l ((x &&& (1023 : Int32)) + (1024 : Int32))
  rw [← e_t] at f3
  refine WP.lloadN d5_28 rfl (pc' := 29) rfl ?_
  refine WP.iloadN d5_29 rfl (pc' := 30) rfl ?_
  refine WP.lshl d5_30 (pc' := 31) rfl ?_
  exact WP.retJ d5_31 rfl (by decide) (by decide) ⟨rfl, _, rfl, by have g1 : ((t <<< ((41 : Int32) &&& 63).toInt64).toInt - t.toInt * 2199023255552) % 18446744073709551616 = 0 := c_lshl t (41 : Int32) 41 (by decide); have g2 := own_r64 (t <<< ((41 : Int32) &&& 63).toInt64); unfold valF; rw [if_neg (by omega), show (x.toInt / 1024).toNat - 1 = 41 by omega, show (2 : Int) ^ 41 = 2199023255552 from by decide]; omega⟩
theorem val_17_42 {l : Launch} {Z : State} {a0 : Array Value} (hw : HW Z a0) {n0 : Nat} {h : Heap} (x : Int32) (h1 : 2048 ≤ x.toInt) (h2 : x.toInt / 1024 = 43) (h3 : x.toInt ≤ 54272) : WP l B5 Z n0 (fun v h' => h = h' ∧ ∃ r : Int64, v = some (.long r) ∧ r.toInt = valF x.toInt) h 0 0 17 #[.val (.int x), .val (.int (42 : Int32)), .unset, .unset] [] := by
  have k32_42 : (42 : Int32).toInt = 42 := by decide
  have k32_1023 : (1023 : Int32).toInt = 1023 := by decide
  have k32_1024 : (1024 : Int32).toInt = 1024 := by decide
  refine WP.iloadN d5_17 rfl (pc' := 18) rfl ?_
  refine WP.sipush d5_18 (z := (1023 : Int32)) rfl (pc' := 21) rfl ?_
  refine WP.iand d5_21 (pc' := 22) rfl ?_
  refine WP.sipush d5_22 (z := (1024 : Int32)) rfl (pc' := 25) rfl ?_
  refine WP.iadd d5_25 (pc' := 26) rfl ?_
  refine WP.i2l d5_26 (pc' := 27) rfl ?_
  obtain ⟨t, e_t⟩ : ∃ z, z = ((x &&& (1023 : Int32)) + (1024 : Int32)).toInt64 := ⟨_, rfl⟩
  rw [← e_t]
  refine WP.lstoreN d5_27 (pc' := 28) rfl (ls' := #[.val (.int x), .val (.int (42 : Int32)), .val (.long t), .second]) rfl ?_
  have f1 : (x &&& (1023 : Int32)).toInt = x.toInt % 1024 := own_mask _ _ 10 _ (by decide) (by decide) (by decide)
  have f2 : ((x &&& (1023 : Int32)) + (1024 : Int32)).toInt = x.toInt % 1024 + 1024 := by rw [own_iadd] <;> omega
  have f3 := c_i2l ((x &&& (1023 : Int32)) + (1024 : Int32))
  rw [← e_t] at f3
  refine WP.lloadN d5_28 rfl (pc' := 29) rfl ?_
  refine WP.iloadN d5_29 rfl (pc' := 30) rfl ?_
  refine WP.lshl d5_30 (pc' := 31) rfl ?_
  exact WP.retJ d5_31 rfl (by decide) (by decide) ⟨rfl, _, rfl, by have g1 : ((t <<< ((42 : Int32) &&& 63).toInt64).toInt - t.toInt * 4398046511104) % 18446744073709551616 = 0 := c_lshl t (42 : Int32) 42 (by decide); have g2 := own_r64 (t <<< ((42 : Int32) &&& 63).toInt64); unfold valF; rw [if_neg (by omega), show (x.toInt / 1024).toNat - 1 = 42 by omega, show (2 : Int) ^ 42 = 4398046511104 from by decide]; omega⟩
theorem val_17_43 {l : Launch} {Z : State} {a0 : Array Value} (hw : HW Z a0) {n0 : Nat} {h : Heap} (x : Int32) (h1 : 2048 ≤ x.toInt) (h2 : x.toInt / 1024 = 44) (h3 : x.toInt ≤ 54272) : WP l B5 Z n0 (fun v h' => h = h' ∧ ∃ r : Int64, v = some (.long r) ∧ r.toInt = valF x.toInt) h 0 0 17 #[.val (.int x), .val (.int (43 : Int32)), .unset, .unset] [] := by
  have k32_43 : (43 : Int32).toInt = 43 := by decide
  have k32_1023 : (1023 : Int32).toInt = 1023 := by decide
  have k32_1024 : (1024 : Int32).toInt = 1024 := by decide
  refine WP.iloadN d5_17 rfl (pc' := 18) rfl ?_
  refine WP.sipush d5_18 (z := (1023 : Int32)) rfl (pc' := 21) rfl ?_
  refine WP.iand d5_21 (pc' := 22) rfl ?_
  refine WP.sipush d5_22 (z := (1024 : Int32)) rfl (pc' := 25) rfl ?_
  refine WP.iadd d5_25 (pc' := 26) rfl ?_
  refine WP.i2l d5_26 (pc' := 27) rfl ?_
  obtain ⟨t, e_t⟩ : ∃ z, z = ((x &&& (1023 : Int32)) + (1024 : Int32)).toInt64 := ⟨_, rfl⟩
  rw [← e_t]
  refine WP.lstoreN d5_27 (pc' := 28) rfl (ls' := #[.val (.int x), .val (.int (43 : Int32)), .val (.long t), .second]) rfl ?_
  have f1 : (x &&& (1023 : Int32)).toInt = x.toInt % 1024 := own_mask _ _ 10 _ (by decide) (by decide) (by decide)
  have f2 : ((x &&& (1023 : Int32)) + (1024 : Int32)).toInt = x.toInt % 1024 + 1024 := by rw [own_iadd] <;> omega
  have f3 := c_i2l ((x &&& (1023 : Int32)) + (1024 : Int32))
  rw [← e_t] at f3
  refine WP.lloadN d5_28 rfl (pc' := 29) rfl ?_
  refine WP.iloadN d5_29 rfl (pc' := 30) rfl ?_
  refine WP.lshl d5_30 (pc' := 31) rfl ?_
  exact WP.retJ d5_31 rfl (by decide) (by decide) ⟨rfl, _, rfl, by have g1 : ((t <<< ((43 : Int32) &&& 63).toInt64).toInt - t.toInt * 8796093022208) % 18446744073709551616 = 0 := c_lshl t (43 : Int32) 43 (by decide); have g2 := own_r64 (t <<< ((43 : Int32) &&& 63).toInt64); unfold valF; rw [if_neg (by omega), show (x.toInt / 1024).toNat - 1 = 43 by omega, show (2 : Int) ^ 43 = 8796093022208 from by decide]; omega⟩
theorem val_17_44 {l : Launch} {Z : State} {a0 : Array Value} (hw : HW Z a0) {n0 : Nat} {h : Heap} (x : Int32) (h1 : 2048 ≤ x.toInt) (h2 : x.toInt / 1024 = 45) (h3 : x.toInt ≤ 54272) : WP l B5 Z n0 (fun v h' => h = h' ∧ ∃ r : Int64, v = some (.long r) ∧ r.toInt = valF x.toInt) h 0 0 17 #[.val (.int x), .val (.int (44 : Int32)), .unset, .unset] [] := by
  have k32_44 : (44 : Int32).toInt = 44 := by decide
  have k32_1023 : (1023 : Int32).toInt = 1023 := by decide
  have k32_1024 : (1024 : Int32).toInt = 1024 := by decide
  refine WP.iloadN d5_17 rfl (pc' := 18) rfl ?_
  refine WP.sipush d5_18 (z := (1023 : Int32)) rfl (pc' := 21) rfl ?_
  refine WP.iand d5_21 (pc' := 22) rfl ?_
  refine WP.sipush d5_22 (z := (1024 : Int32)) rfl (pc' := 25) rfl ?_
  refine WP.iadd d5_25 (pc' := 26) rfl ?_
  refine WP.i2l d5_26 (pc' := 27) rfl ?_
  obtain ⟨t, e_t⟩ : ∃ z, z = ((x &&& (1023 : Int32)) + (1024 : Int32)).toInt64 := ⟨_, rfl⟩
  rw [← e_t]
  refine WP.lstoreN d5_27 (pc' := 28) rfl (ls' := #[.val (.int x), .val (.int (44 : Int32)), .val (.long t), .second]) rfl ?_
  have f1 : (x &&& (1023 : Int32)).toInt = x.toInt % 1024 := own_mask _ _ 10 _ (by decide) (by decide) (by decide)
  have f2 : ((x &&& (1023 : Int32)) + (1024 : Int32)).toInt = x.toInt % 1024 + 1024 := by rw [own_iadd] <;> omega
  have f3 := c_i2l ((x &&& (1023 : Int32)) + (1024 : Int32))
  rw [← e_t] at f3
  refine WP.lloadN d5_28 rfl (pc' := 29) rfl ?_
  refine WP.iloadN d5_29 rfl (pc' := 30) rfl ?_
  refine WP.lshl d5_30 (pc' := 31) rfl ?_
  exact WP.retJ d5_31 rfl (by decide) (by decide) ⟨rfl, _, rfl, by have g1 : ((t <<< ((44 : Int32) &&& 63).toInt64).toInt - t.toInt * 17592186044416) % 18446744073709551616 = 0 := c_lshl t (44 : Int32) 44 (by decide); have g2 := own_r64 (t <<< ((44 : Int32) &&& 63).toInt64); unfold valF; rw [if_neg (by omega), show (x.toInt / 1024).toNat - 1 = 44 by omega, show (2 : Int) ^ 44 = 17592186044416 from by decide]; omega⟩
theorem val_17_45 {l : Launch} {Z : State} {a0 : Array Value} (hw : HW Z a0) {n0 : Nat} {h : Heap} (x : Int32) (h1 : 2048 ≤ x.toInt) (h2 : x.toInt / 1024 = 46) (h3 : x.toInt ≤ 54272) : WP l B5 Z n0 (fun v h' => h = h' ∧ ∃ r : Int64, v = some (.long r) ∧ r.toInt = valF x.toInt) h 0 0 17 #[.val (.int x), .val (.int (45 : Int32)), .unset, .unset] [] := by
  have k32_45 : (45 : Int32).toInt = 45 := by decide
  have k32_1023 : (1023 : Int32).toInt = 1023 := by decide
  have k32_1024 : (1024 : Int32).toInt = 1024 := by decide
  refine WP.iloadN d5_17 rfl (pc' := 18) rfl ?_
  refine WP.sipush d5_18 (z := (1023 : Int32)) rfl (pc' := 21) rfl ?_
  refine WP.iand d5_21 (pc' := 22) rfl ?_
  refine WP.sipush d5_22 (z := (1024 : Int32)) rfl (pc' := 25) rfl ?_
  refine WP.iadd d5_25 (pc' := 26) rfl ?_
  refine WP.i2l d5_26 (pc' := 27) rfl ?_
  obtain ⟨t, e_t⟩ : ∃ z, z = ((x &&& (1023 : Int32)) + (1024 : Int32)).toInt64 := ⟨_, rfl⟩
  rw [← e_t]
  refine WP.lstoreN d5_27 (pc' := 28) rfl (ls' := #[.val (.int x), .val (.int (45 : Int32)), .val (.long t), .second]) rfl ?_
  have f1 : (x &&& (1023 : Int32)).toInt = x.toInt % 1024 := own_mask _ _ 10 _ (by decide) (by decide) (by decide)
  have f2 : ((x &&& (1023 : Int32)) + (1024 : Int32)).toInt = x.toInt % 1024 + 1024 := by rw [own_iadd] <;> omega
  have f3 := c_i2l ((x &&& (1023 : Int32)) + (1024 : Int32))
  rw [← e_t] at f3
  refine WP.lloadN d5_28 rfl (pc' := 29) rfl ?_
  refine WP.iloadN d5_29 rfl (pc' := 30) rfl ?_
  refine WP.lshl d5_30 (pc' := 31) rfl ?_
  exact WP.retJ d5_31 rfl (by decide) (by decide) ⟨rfl, _, rfl, by have g1 : ((t <<< ((45 : Int32) &&& 63).toInt64).toInt - t.toInt * 35184372088832) % 18446744073709551616 = 0 := c_lshl t (45 : Int32) 45 (by decide); have g2 := own_r64 (t <<< ((45 : Int32) &&& 63).toInt64); unfold valF; rw [if_neg (by omega), show (x.toInt / 1024).toNat - 1 = 45 by omega, show (2 : Int) ^ 45 = 35184372088832 from by decide]; omega⟩
theorem val_17_46 {l : Launch} {Z : State} {a0 : Array Value} (hw : HW Z a0) {n0 : Nat} {h : Heap} (x : Int32) (h1 : 2048 ≤ x.toInt) (h2 : x.toInt / 1024 = 47) (h3 : x.toInt ≤ 54272) : WP l B5 Z n0 (fun v h' => h = h' ∧ ∃ r : Int64, v = some (.long r) ∧ r.toInt = valF x.toInt) h 0 0 17 #[.val (.int x), .val (.int (46 : Int32)), .unset, .unset] [] := by
  have k32_46 : (46 : Int32).toInt = 46 := by decide
  have k32_1023 : (1023 : Int32).toInt = 1023 := by decide
  have k32_1024 : (1024 : Int32).toInt = 1024 := by decide
  refine WP.iloadN d5_17 rfl (pc' := 18) rfl ?_
  refine WP.sipush d5_18 (z := (1023 : Int32)) rfl (pc' := 21) rfl ?_
  refine WP.iand d5_21 (pc' := 22) rfl ?_
  refine WP.sipush d5_22 (z := (1024 : Int32)) rfl (pc' := 25) rfl ?_
  refine WP.iadd d5_25 (pc' := 26) rfl ?_
  refine WP.i2l d5_26 (pc' := 27) rfl ?_
  obtain ⟨t, e_t⟩ : ∃ z, z = ((x &&& (1023 : Int32)) + (1024 : Int32)).toInt64 := ⟨_, rfl⟩
  rw [← e_t]
  refine WP.lstoreN d5_27 (pc' := 28) rfl (ls' := #[.val (.int x), .val (.int (46 : Int32)), .val (.long t), .second]) rfl ?_
  have f1 : (x &&& (1023 : Int32)).toInt = x.toInt % 1024 := own_mask _ _ 10 _ (by decide) (by decide) (by decide)
  have f2 : ((x &&& (1023 : Int32)) + (1024 : Int32)).toInt = x.toInt % 1024 + 1024 := by rw [own_iadd] <;> omega
  have f3 := c_i2l ((x &&& (1023 : Int32)) + (1024 : Int32))
  rw [← e_t] at f3
  refine WP.lloadN d5_28 rfl (pc' := 29) rfl ?_
  refine WP.iloadN d5_29 rfl (pc' := 30) rfl ?_
  refine WP.lshl d5_30 (pc' := 31) rfl ?_
  exact WP.retJ d5_31 rfl (by decide) (by decide) ⟨rfl, _, rfl, by have g1 : ((t <<< ((46 : Int32) &&& 63).toInt64).toInt - t.toInt * 70368744177664) % 18446744073709551616 = 0 := c_lshl t (46 : Int32) 46 (by decide); have g2 := own_r64 (t <<< ((46 : Int32) &&& 63).toInt64); unfold valF; rw [if_neg (by omega), show (x.toInt / 1024).toNat - 1 = 46 by omega, show (2 : Int) ^ 46 = 70368744177664 from by decide]; omega⟩
theorem val_17_47 {l : Launch} {Z : State} {a0 : Array Value} (hw : HW Z a0) {n0 : Nat} {h : Heap} (x : Int32) (h1 : 2048 ≤ x.toInt) (h2 : x.toInt / 1024 = 48) (h3 : x.toInt ≤ 54272) : WP l B5 Z n0 (fun v h' => h = h' ∧ ∃ r : Int64, v = some (.long r) ∧ r.toInt = valF x.toInt) h 0 0 17 #[.val (.int x), .val (.int (47 : Int32)), .unset, .unset] [] := by
  have k32_47 : (47 : Int32).toInt = 47 := by decide
  have k32_1023 : (1023 : Int32).toInt = 1023 := by decide
  have k32_1024 : (1024 : Int32).toInt = 1024 := by decide
  refine WP.iloadN d5_17 rfl (pc' := 18) rfl ?_
  refine WP.sipush d5_18 (z := (1023 : Int32)) rfl (pc' := 21) rfl ?_
  refine WP.iand d5_21 (pc' := 22) rfl ?_
  refine WP.sipush d5_22 (z := (1024 : Int32)) rfl (pc' := 25) rfl ?_
  refine WP.iadd d5_25 (pc' := 26) rfl ?_
  refine WP.i2l d5_26 (pc' := 27) rfl ?_
  obtain ⟨t, e_t⟩ : ∃ z, z = ((x &&& (1023 : Int32)) + (1024 : Int32)).toInt64 := ⟨_, rfl⟩
  rw [← e_t]
  refine WP.lstoreN d5_27 (pc' := 28) rfl (ls' := #[.val (.int x), .val (.int (47 : Int32)), .val (.long t), .second]) rfl ?_
  have f1 : (x &&& (1023 : Int32)).toInt = x.toInt % 1024 := own_mask _ _ 10 _ (by decide) (by decide) (by decide)
  have f2 : ((x &&& (1023 : Int32)) + (1024 : Int32)).toInt = x.toInt % 1024 + 1024 := by rw [own_iadd] <;> omega
  have f3 := c_i2l ((x &&& (1023 : Int32)) + (1024 : Int32))
  rw [← e_t] at f3
  refine WP.lloadN d5_28 rfl (pc' := 29) rfl ?_
  refine WP.iloadN d5_29 rfl (pc' := 30) rfl ?_
  refine WP.lshl d5_30 (pc' := 31) rfl ?_
  exact WP.retJ d5_31 rfl (by decide) (by decide) ⟨rfl, _, rfl, by have g1 : ((t <<< ((47 : Int32) &&& 63).toInt64).toInt - t.toInt * 140737488355328) % 18446744073709551616 = 0 := c_lshl t (47 : Int32) 47 (by decide); have g2 := own_r64 (t <<< ((47 : Int32) &&& 63).toInt64); unfold valF; rw [if_neg (by omega), show (x.toInt / 1024).toNat - 1 = 47 by omega, show (2 : Int) ^ 47 = 140737488355328 from by decide]; omega⟩
theorem val_17_48 {l : Launch} {Z : State} {a0 : Array Value} (hw : HW Z a0) {n0 : Nat} {h : Heap} (x : Int32) (h1 : 2048 ≤ x.toInt) (h2 : x.toInt / 1024 = 49) (h3 : x.toInt ≤ 54272) : WP l B5 Z n0 (fun v h' => h = h' ∧ ∃ r : Int64, v = some (.long r) ∧ r.toInt = valF x.toInt) h 0 0 17 #[.val (.int x), .val (.int (48 : Int32)), .unset, .unset] [] := by
  have k32_48 : (48 : Int32).toInt = 48 := by decide
  have k32_1023 : (1023 : Int32).toInt = 1023 := by decide
  have k32_1024 : (1024 : Int32).toInt = 1024 := by decide
  refine WP.iloadN d5_17 rfl (pc' := 18) rfl ?_
  refine WP.sipush d5_18 (z := (1023 : Int32)) rfl (pc' := 21) rfl ?_
  refine WP.iand d5_21 (pc' := 22) rfl ?_
  refine WP.sipush d5_22 (z := (1024 : Int32)) rfl (pc' := 25) rfl ?_
  refine WP.iadd d5_25 (pc' := 26) rfl ?_
  refine WP.i2l d5_26 (pc' := 27) rfl ?_
  obtain ⟨t, e_t⟩ : ∃ z, z = ((x &&& (1023 : Int32)) + (1024 : Int32)).toInt64 := ⟨_, rfl⟩
  rw [← e_t]
  refine WP.lstoreN d5_27 (pc' := 28) rfl (ls' := #[.val (.int x), .val (.int (48 : Int32)), .val (.long t), .second]) rfl ?_
  have f1 : (x &&& (1023 : Int32)).toInt = x.toInt % 1024 := own_mask _ _ 10 _ (by decide) (by decide) (by decide)
  have f2 : ((x &&& (1023 : Int32)) + (1024 : Int32)).toInt = x.toInt % 1024 + 1024 := by rw [own_iadd] <;> omega
  have f3 := c_i2l ((x &&& (1023 : Int32)) + (1024 : Int32))
  rw [← e_t] at f3
  refine WP.lloadN d5_28 rfl (pc' := 29) rfl ?_
  refine WP.iloadN d5_29 rfl (pc' := 30) rfl ?_
  refine WP.lshl d5_30 (pc' := 31) rfl ?_
  exact WP.retJ d5_31 rfl (by decide) (by decide) ⟨rfl, _, rfl, by have g1 : ((t <<< ((48 : Int32) &&& 63).toInt64).toInt - t.toInt * 281474976710656) % 18446744073709551616 = 0 := c_lshl t (48 : Int32) 48 (by decide); have g2 := own_r64 (t <<< ((48 : Int32) &&& 63).toInt64); unfold valF; rw [if_neg (by omega), show (x.toInt / 1024).toNat - 1 = 48 by omega, show (2 : Int) ^ 48 = 281474976710656 from by decide]; omega⟩
theorem val_17_49 {l : Launch} {Z : State} {a0 : Array Value} (hw : HW Z a0) {n0 : Nat} {h : Heap} (x : Int32) (h1 : 2048 ≤ x.toInt) (h2 : x.toInt / 1024 = 50) (h3 : x.toInt ≤ 54272) : WP l B5 Z n0 (fun v h' => h = h' ∧ ∃ r : Int64, v = some (.long r) ∧ r.toInt = valF x.toInt) h 0 0 17 #[.val (.int x), .val (.int (49 : Int32)), .unset, .unset] [] := by
  have k32_49 : (49 : Int32).toInt = 49 := by decide
  have k32_1023 : (1023 : Int32).toInt = 1023 := by decide
  have k32_1024 : (1024 : Int32).toInt = 1024 := by decide
  refine WP.iloadN d5_17 rfl (pc' := 18) rfl ?_
  refine WP.sipush d5_18 (z := (1023 : Int32)) rfl (pc' := 21) rfl ?_
  refine WP.iand d5_21 (pc' := 22) rfl ?_
  refine WP.sipush d5_22 (z := (1024 : Int32)) rfl (pc' := 25) rfl ?_
  refine WP.iadd d5_25 (pc' := 26) rfl ?_
  refine WP.i2l d5_26 (pc' := 27) rfl ?_
  obtain ⟨t, e_t⟩ : ∃ z, z = ((x &&& (1023 : Int32)) + (1024 : Int32)).toInt64 := ⟨_, rfl⟩
  rw [← e_t]
  refine WP.lstoreN d5_27 (pc' := 28) rfl (ls' := #[.val (.int x), .val (.int (49 : Int32)), .val (.long t), .second]) rfl ?_
  have f1 : (x &&& (1023 : Int32)).toInt = x.toInt % 1024 := own_mask _ _ 10 _ (by decide) (by decide) (by decide)
  have f2 : ((x &&& (1023 : Int32)) + (1024 : Int32)).toInt = x.toInt % 1024 + 1024 := by rw [own_iadd] <;> omega
  have f3 := c_i2l ((x &&& (1023 : Int32)) + (1024 : Int32))
  rw [← e_t] at f3
  refine WP.lloadN d5_28 rfl (pc' := 29) rfl ?_
  refine WP.iloadN d5_29 rfl (pc' := 30) rfl ?_
  refine WP.lshl d5_30 (pc' := 31) rfl ?_
  exact WP.retJ d5_31 rfl (by decide) (by decide) ⟨rfl, _, rfl, by have g1 : ((t <<< ((49 : Int32) &&& 63).toInt64).toInt - t.toInt * 562949953421312) % 18446744073709551616 = 0 := c_lshl t (49 : Int32) 49 (by decide); have g2 := own_r64 (t <<< ((49 : Int32) &&& 63).toInt64); unfold valF; rw [if_neg (by omega), show (x.toInt / 1024).toNat - 1 = 49 by omega, show (2 : Int) ^ 49 = 562949953421312 from by decide]; omega⟩
theorem val_17_50 {l : Launch} {Z : State} {a0 : Array Value} (hw : HW Z a0) {n0 : Nat} {h : Heap} (x : Int32) (h1 : 2048 ≤ x.toInt) (h2 : x.toInt / 1024 = 51) (h3 : x.toInt ≤ 54272) : WP l B5 Z n0 (fun v h' => h = h' ∧ ∃ r : Int64, v = some (.long r) ∧ r.toInt = valF x.toInt) h 0 0 17 #[.val (.int x), .val (.int (50 : Int32)), .unset, .unset] [] := by
  have k32_50 : (50 : Int32).toInt = 50 := by decide
  have k32_1023 : (1023 : Int32).toInt = 1023 := by decide
  have k32_1024 : (1024 : Int32).toInt = 1024 := by decide
  refine WP.iloadN d5_17 rfl (pc' := 18) rfl ?_
  refine WP.sipush d5_18 (z := (1023 : Int32)) rfl (pc' := 21) rfl ?_
  refine WP.iand d5_21 (pc' := 22) rfl ?_
  refine WP.sipush d5_22 (z := (1024 : Int32)) rfl (pc' := 25) rfl ?_
  refine WP.iadd d5_25 (pc' := 26) rfl ?_
  refine WP.i2l d5_26 (pc' := 27) rfl ?_
  obtain ⟨t, e_t⟩ : ∃ z, z = ((x &&& (1023 : Int32)) + (1024 : Int32)).toInt64 := ⟨_, rfl⟩
  rw [← e_t]
  refine WP.lstoreN d5_27 (pc' := 28) rfl (ls' := #[.val (.int x), .val (.int (50 : Int32)), .val (.long t), .second]) rfl ?_
  have f1 : (x &&& (1023 : Int32)).toInt = x.toInt % 1024 := own_mask _ _ 10 _ (by decide) (by decide) (by decide)
  have f2 : ((x &&& (1023 : Int32)) + (1024 : Int32)).toInt = x.toInt % 1024 + 1024 := by rw [own_iadd] <;> omega
  have f3 := c_i2l ((x &&& (1023 : Int32)) + (1024 : Int32))
  rw [← e_t] at f3
  refine WP.lloadN d5_28 rfl (pc' := 29) rfl ?_
  refine WP.iloadN d5_29 rfl (pc' := 30) rfl ?_
  refine WP.lshl d5_30 (pc' := 31) rfl ?_
  exact WP.retJ d5_31 rfl (by decide) (by decide) ⟨rfl, _, rfl, by have g1 : ((t <<< ((50 : Int32) &&& 63).toInt64).toInt - t.toInt * 1125899906842624) % 18446744073709551616 = 0 := c_lshl t (50 : Int32) 50 (by decide); have g2 := own_r64 (t <<< ((50 : Int32) &&& 63).toInt64); unfold valF; rw [if_neg (by omega), show (x.toInt / 1024).toNat - 1 = 50 by omega, show (2 : Int) ^ 50 = 1125899906842624 from by decide]; omega⟩
theorem val_17_51 {l : Launch} {Z : State} {a0 : Array Value} (hw : HW Z a0) {n0 : Nat} {h : Heap} (x : Int32) (h1 : 2048 ≤ x.toInt) (h2 : x.toInt / 1024 = 52) (h3 : x.toInt ≤ 54272) : WP l B5 Z n0 (fun v h' => h = h' ∧ ∃ r : Int64, v = some (.long r) ∧ r.toInt = valF x.toInt) h 0 0 17 #[.val (.int x), .val (.int (51 : Int32)), .unset, .unset] [] := by
  have k32_51 : (51 : Int32).toInt = 51 := by decide
  have k32_1023 : (1023 : Int32).toInt = 1023 := by decide
  have k32_1024 : (1024 : Int32).toInt = 1024 := by decide
  refine WP.iloadN d5_17 rfl (pc' := 18) rfl ?_
  refine WP.sipush d5_18 (z := (1023 : Int32)) rfl (pc' := 21) rfl ?_
  refine WP.iand d5_21 (pc' := 22) rfl ?_
  refine WP.sipush d5_22 (z := (1024 : Int32)) rfl (pc' := 25) rfl ?_
  refine WP.iadd d5_25 (pc' := 26) rfl ?_
  refine WP.i2l d5_26 (pc' := 27) rfl ?_
  obtain ⟨t, e_t⟩ : ∃ z, z = ((x &&& (1023 : Int32)) + (1024 : Int32)).toInt64 := ⟨_, rfl⟩
  rw [← e_t]
  refine WP.lstoreN d5_27 (pc' := 28) rfl (ls' := #[.val (.int x), .val (.int (51 : Int32)), .val (.long t), .second]) rfl ?_
  have f1 : (x &&& (1023 : Int32)).toInt = x.toInt % 1024 := own_mask _ _ 10 _ (by decide) (by decide) (by decide)
  have f2 : ((x &&& (1023 : Int32)) + (1024 : Int32)).toInt = x.toInt % 1024 + 1024 := by rw [own_iadd] <;> omega
  have f3 := c_i2l ((x &&& (1023 : Int32)) + (1024 : Int32))
  rw [← e_t] at f3
  refine WP.lloadN d5_28 rfl (pc' := 29) rfl ?_
  refine WP.iloadN d5_29 rfl (pc' := 30) rfl ?_
  refine WP.lshl d5_30 (pc' := 31) rfl ?_
  exact WP.retJ d5_31 rfl (by decide) (by decide) ⟨rfl, _, rfl, by have g1 : ((t <<< ((51 : Int32) &&& 63).toInt64).toInt - t.toInt * 2251799813685248) % 18446744073709551616 = 0 := c_lshl t (51 : Int32) 51 (by decide); have g2 := own_r64 (t <<< ((51 : Int32) &&& 63).toInt64); unfold valF; rw [if_neg (by omega), show (x.toInt / 1024).toNat - 1 = 51 by omega, show (2 : Int) ^ 51 = 2251799813685248 from by decide]; omega⟩
theorem val_17_52 {l : Launch} {Z : State} {a0 : Array Value} (hw : HW Z a0) {n0 : Nat} {h : Heap} (x : Int32) (h1 : 2048 ≤ x.toInt) (h2 : x.toInt / 1024 = 53) (h3 : x.toInt ≤ 54272) : WP l B5 Z n0 (fun v h' => h = h' ∧ ∃ r : Int64, v = some (.long r) ∧ r.toInt = valF x.toInt) h 0 0 17 #[.val (.int x), .val (.int (52 : Int32)), .unset, .unset] [] := by
  have k32_52 : (52 : Int32).toInt = 52 := by decide
  have k32_1023 : (1023 : Int32).toInt = 1023 := by decide
  have k32_1024 : (1024 : Int32).toInt = 1024 := by decide
  refine WP.iloadN d5_17 rfl (pc' := 18) rfl ?_
  refine WP.sipush d5_18 (z := (1023 : Int32)) rfl (pc' := 21) rfl ?_
  refine WP.iand d5_21 (pc' := 22) rfl ?_
  refine WP.sipush d5_22 (z := (1024 : Int32)) rfl (pc' := 25) rfl ?_
  refine WP.iadd d5_25 (pc' := 26) rfl ?_
  refine WP.i2l d5_26 (pc' := 27) rfl ?_
  obtain ⟨t, e_t⟩ : ∃ z, z = ((x &&& (1023 : Int32)) + (1024 : Int32)).toInt64 := ⟨_, rfl⟩
  rw [← e_t]
  refine WP.lstoreN d5_27 (pc' := 28) rfl (ls' := #[.val (.int x), .val (.int (52 : Int32)), .val (.long t), .second]) rfl ?_
  have f1 : (x &&& (1023 : Int32)).toInt = x.toInt % 1024 := own_mask _ _ 10 _ (by decide) (by decide) (by decide)
  have f2 : ((x &&& (1023 : Int32)) + (1024 : Int32)).toInt = x.toInt % 1024 + 1024 := by rw [own_iadd] <;> omega
  have f3 := c_i2l ((x &&& (1023 : Int32)) + (1024 : Int32))
  rw [← e_t] at f3
  refine WP.lloadN d5_28 rfl (pc' := 29) rfl ?_
  refine WP.iloadN d5_29 rfl (pc' := 30) rfl ?_
  refine WP.lshl d5_30 (pc' := 31) rfl ?_
  exact WP.retJ d5_31 rfl (by decide) (by decide) ⟨rfl, _, rfl, by have g1 : ((t <<< ((52 : Int32) &&& 63).toInt64).toInt - t.toInt * 4503599627370496) % 18446744073709551616 = 0 := c_lshl t (52 : Int32) 52 (by decide); have g2 := own_r64 (t <<< ((52 : Int32) &&& 63).toInt64); unfold valF; rw [if_neg (by omega), show (x.toInt / 1024).toNat - 1 = 52 by omega, show (2 : Int) ^ 52 = 4503599627370496 from by decide]; omega⟩
theorem val_met {l : Launch} {Z : State} {a0 : Array Value} (hw : HW Z a0) {n0 : Nat} {h : Heap} (x : Int32) (hx1 : 0 ≤ x.toInt) (hx2 : x.toInt ≤ 54272) : OMet l (⟨"com/example/apportion/apportion/IdleTimelineRunLengthPinLaw", "val", "(I)J"⟩ : MethodName) B5 Z n0 #[(.int x)] h (fun v h' => h = h' ∧ ∃ r : Int64, v = some (.long r) ∧ r.toInt = valF x.toInt) := by
  refine OMet.of_wp (ls0 := #[.val (.int x), .unset, .unset, .unset]) pl5 rfl rfl (fun m => own_entry 3 rfl rfl) ?_
  have k32_1 : (1 : Int32).toInt = 1 := by decide
  have k32_2 : (2 : Int32).toInt = 2 := by decide
  have k32_3 : (3 : Int32).toInt = 3 := by decide
  have k32_4 : (4 : Int32).toInt = 4 := by decide
  have k32_5 : (5 : Int32).toInt = 5 := by decide
  have k32_6 : (6 : Int32).toInt = 6 := by decide
  have k32_7 : (7 : Int32).toInt = 7 := by decide
  have k32_8 : (8 : Int32).toInt = 8 := by decide
  have k32_9 : (9 : Int32).toInt = 9 := by decide
  have k32_10 : (10 : Int32).toInt = 10 := by decide
  have k32_11 : (11 : Int32).toInt = 11 := by decide
  have k32_12 : (12 : Int32).toInt = 12 := by decide
  have k32_13 : (13 : Int32).toInt = 13 := by decide
  have k32_14 : (14 : Int32).toInt = 14 := by decide
  have k32_15 : (15 : Int32).toInt = 15 := by decide
  have k32_16 : (16 : Int32).toInt = 16 := by decide
  have k32_17 : (17 : Int32).toInt = 17 := by decide
  have k32_18 : (18 : Int32).toInt = 18 := by decide
  have k32_19 : (19 : Int32).toInt = 19 := by decide
  have k32_20 : (20 : Int32).toInt = 20 := by decide
  have k32_21 : (21 : Int32).toInt = 21 := by decide
  have k32_22 : (22 : Int32).toInt = 22 := by decide
  have k32_23 : (23 : Int32).toInt = 23 := by decide
  have k32_24 : (24 : Int32).toInt = 24 := by decide
  have k32_25 : (25 : Int32).toInt = 25 := by decide
  have k32_26 : (26 : Int32).toInt = 26 := by decide
  have k32_27 : (27 : Int32).toInt = 27 := by decide
  have k32_28 : (28 : Int32).toInt = 28 := by decide
  have k32_29 : (29 : Int32).toInt = 29 := by decide
  have k32_30 : (30 : Int32).toInt = 30 := by decide
  have k32_31 : (31 : Int32).toInt = 31 := by decide
  have k32_32 : (32 : Int32).toInt = 32 := by decide
  have k32_33 : (33 : Int32).toInt = 33 := by decide
  have k32_34 : (34 : Int32).toInt = 34 := by decide
  have k32_35 : (35 : Int32).toInt = 35 := by decide
  have k32_36 : (36 : Int32).toInt = 36 := by decide
  have k32_37 : (37 : Int32).toInt = 37 := by decide
  have k32_38 : (38 : Int32).toInt = 38 := by decide
  have k32_39 : (39 : Int32).toInt = 39 := by decide
  have k32_40 : (40 : Int32).toInt = 40 := by decide
  have k32_41 : (41 : Int32).toInt = 41 := by decide
  have k32_42 : (42 : Int32).toInt = 42 := by decide
  have k32_43 : (43 : Int32).toInt = 43 := by decide
  have k32_44 : (44 : Int32).toInt = 44 := by decide
  have k32_45 : (45 : Int32).toInt = 45 := by decide
  have k32_46 : (46 : Int32).toInt = 46 := by decide
  have k32_47 : (47 : Int32).toInt = 47 := by decide
  have k32_48 : (48 : Int32).toInt = 48 := by decide
  have k32_49 : (49 : Int32).toInt = 49 := by decide
  have k32_50 : (50 : Int32).toInt = 50 := by decide
  have k32_51 : (51 : Int32).toInt = 51 := by decide
  have k32_52 : (52 : Int32).toInt = 52 := by decide
  have k32_2048 : (2048 : Int32).toInt = 2048 := by decide
  refine WP.iloadN d5_0 rfl (pc' := 1) rfl ?_
  refine WP.sipush d5_1 (z := (2048 : Int32)) rfl (pc' := 4) rfl ?_
  refine WP.icmpGe d5_4 (tgt := 10) (by decide) (pc' := 7) rfl (fun c4 => ?_) (fun c4 => ?_)
  ·
    refine WP.iloadN d5_10 rfl (pc' := 11) rfl ?_
    refine WP.bipush d5_11 (z := (10 : Int32)) rfl (pc' := 13) rfl ?_
    refine WP.ishr d5_13 (pc' := 14) rfl ?_
    refine WP.iconst d5_14 (z := (1 : Int32)) rfl (pc' := 15) rfl ?_
    refine WP.isub d5_15 (pc' := 16) rfl ?_
    obtain ⟨d, e_d⟩ : ∃ z, z = ((x >>> ((10 : Int32) &&& 31)) - (1 : Int32)) := ⟨_, rfl⟩
    rw [← e_d]
    refine WP.istoreN d5_16 (pc' := 17) rfl (ls' := #[.val (.int x), .val (.int d), .unset, .unset]) rfl ?_
    have f1 : (x >>> ((10 : Int32) &&& 31)).toInt = x.toInt / 1024 := own_ishr x 10 10 1024 (by decide) (by decide)
    have f2 : d.toInt = x.toInt / 1024 - 1 := by rw [e_d, own_isub] <;> omega
    rcases (by omega : x.toInt / 1024 = 2 ∨ x.toInt / 1024 = 3 ∨ x.toInt / 1024 = 4 ∨ x.toInt / 1024 = 5 ∨ x.toInt / 1024 = 6 ∨ x.toInt / 1024 = 7 ∨ x.toInt / 1024 = 8 ∨ x.toInt / 1024 = 9 ∨ x.toInt / 1024 = 10 ∨ x.toInt / 1024 = 11 ∨ x.toInt / 1024 = 12 ∨ x.toInt / 1024 = 13 ∨ x.toInt / 1024 = 14 ∨ x.toInt / 1024 = 15 ∨ x.toInt / 1024 = 16 ∨ x.toInt / 1024 = 17 ∨ x.toInt / 1024 = 18 ∨ x.toInt / 1024 = 19 ∨ x.toInt / 1024 = 20 ∨ x.toInt / 1024 = 21 ∨ x.toInt / 1024 = 22 ∨ x.toInt / 1024 = 23 ∨ x.toInt / 1024 = 24 ∨ x.toInt / 1024 = 25 ∨ x.toInt / 1024 = 26 ∨ x.toInt / 1024 = 27 ∨ x.toInt / 1024 = 28 ∨ x.toInt / 1024 = 29 ∨ x.toInt / 1024 = 30 ∨ x.toInt / 1024 = 31 ∨ x.toInt / 1024 = 32 ∨ x.toInt / 1024 = 33 ∨ x.toInt / 1024 = 34 ∨ x.toInt / 1024 = 35 ∨ x.toInt / 1024 = 36 ∨ x.toInt / 1024 = 37 ∨ x.toInt / 1024 = 38 ∨ x.toInt / 1024 = 39 ∨ x.toInt / 1024 = 40 ∨ x.toInt / 1024 = 41 ∨ x.toInt / 1024 = 42 ∨ x.toInt / 1024 = 43 ∨ x.toInt / 1024 = 44 ∨ x.toInt / 1024 = 45 ∨ x.toInt / 1024 = 46 ∨ x.toInt / 1024 = 47 ∨ x.toInt / 1024 = 48 ∨ x.toInt / 1024 = 49 ∨ x.toInt / 1024 = 50 ∨ x.toInt / 1024 = 51 ∨ x.toInt / 1024 = 52 ∨ x.toInt / 1024 = 53) with hk | hk | hk | hk | hk | hk | hk | hk | hk | hk | hk | hk | hk | hk | hk | hk | hk | hk | hk | hk | hk | hk | hk | hk | hk | hk | hk | hk | hk | hk | hk | hk | hk | hk | hk | hk | hk | hk | hk | hk | hk | hk | hk | hk | hk | hk | hk | hk | hk | hk | hk | hk
    · rw [show d = (1 : Int32) from own_e32 (by rw [f2, hk]; decide)]; exact val_17_1 hw x (by omega) hk hx2
    · rw [show d = (2 : Int32) from own_e32 (by rw [f2, hk]; decide)]; exact val_17_2 hw x (by omega) hk hx2
    · rw [show d = (3 : Int32) from own_e32 (by rw [f2, hk]; decide)]; exact val_17_3 hw x (by omega) hk hx2
    · rw [show d = (4 : Int32) from own_e32 (by rw [f2, hk]; decide)]; exact val_17_4 hw x (by omega) hk hx2
    · rw [show d = (5 : Int32) from own_e32 (by rw [f2, hk]; decide)]; exact val_17_5 hw x (by omega) hk hx2
    · rw [show d = (6 : Int32) from own_e32 (by rw [f2, hk]; decide)]; exact val_17_6 hw x (by omega) hk hx2
    · rw [show d = (7 : Int32) from own_e32 (by rw [f2, hk]; decide)]; exact val_17_7 hw x (by omega) hk hx2
    · rw [show d = (8 : Int32) from own_e32 (by rw [f2, hk]; decide)]; exact val_17_8 hw x (by omega) hk hx2
    · rw [show d = (9 : Int32) from own_e32 (by rw [f2, hk]; decide)]; exact val_17_9 hw x (by omega) hk hx2
    · rw [show d = (10 : Int32) from own_e32 (by rw [f2, hk]; decide)]; exact val_17_10 hw x (by omega) hk hx2
    · rw [show d = (11 : Int32) from own_e32 (by rw [f2, hk]; decide)]; exact val_17_11 hw x (by omega) hk hx2
    · rw [show d = (12 : Int32) from own_e32 (by rw [f2, hk]; decide)]; exact val_17_12 hw x (by omega) hk hx2
    · rw [show d = (13 : Int32) from own_e32 (by rw [f2, hk]; decide)]; exact val_17_13 hw x (by omega) hk hx2
    · rw [show d = (14 : Int32) from own_e32 (by rw [f2, hk]; decide)]; exact val_17_14 hw x (by omega) hk hx2
    · rw [show d = (15 : Int32) from own_e32 (by rw [f2, hk]; decide)]; exact val_17_15 hw x (by omega) hk hx2
    · rw [show d = (16 : Int32) from own_e32 (by rw [f2, hk]; decide)]; exact val_17_16 hw x (by omega) hk hx2
    · rw [show d = (17 : Int32) from own_e32 (by rw [f2, hk]; decide)]; exact val_17_17 hw x (by omega) hk hx2
    · rw [show d = (18 : Int32) from own_e32 (by rw [f2, hk]; decide)]; exact val_17_18 hw x (by omega) hk hx2
    · rw [show d = (19 : Int32) from own_e32 (by rw [f2, hk]; decide)]; exact val_17_19 hw x (by omega) hk hx2
    · rw [show d = (20 : Int32) from own_e32 (by rw [f2, hk]; decide)]; exact val_17_20 hw x (by omega) hk hx2
    · rw [show d = (21 : Int32) from own_e32 (by rw [f2, hk]; decide)]; exact val_17_21 hw x (by omega) hk hx2
    · rw [show d = (22 : Int32) from own_e32 (by rw [f2, hk]; decide)]; exact val_17_22 hw x (by omega) hk hx2
    · rw [show d = (23 : Int32) from own_e32 (by rw [f2, hk]; decide)]; exact val_17_23 hw x (by omega) hk hx2
    · rw [show d = (24 : Int32) from own_e32 (by rw [f2, hk]; decide)]; exact val_17_24 hw x (by omega) hk hx2
    · rw [show d = (25 : Int32) from own_e32 (by rw [f2, hk]; decide)]; exact val_17_25 hw x (by omega) hk hx2
    · rw [show d = (26 : Int32) from own_e32 (by rw [f2, hk]; decide)]; exact val_17_26 hw x (by omega) hk hx2
    · rw [show d = (27 : Int32) from own_e32 (by rw [f2, hk]; decide)]; exact val_17_27 hw x (by omega) hk hx2
    · rw [show d = (28 : Int32) from own_e32 (by rw [f2, hk]; decide)]; exact val_17_28 hw x (by omega) hk hx2
    · rw [show d = (29 : Int32) from own_e32 (by rw [f2, hk]; decide)]; exact val_17_29 hw x (by omega) hk hx2
    · rw [show d = (30 : Int32) from own_e32 (by rw [f2, hk]; decide)]; exact val_17_30 hw x (by omega) hk hx2
    · rw [show d = (31 : Int32) from own_e32 (by rw [f2, hk]; decide)]; exact val_17_31 hw x (by omega) hk hx2
    · rw [show d = (32 : Int32) from own_e32 (by rw [f2, hk]; decide)]; exact val_17_32 hw x (by omega) hk hx2
    · rw [show d = (33 : Int32) from own_e32 (by rw [f2, hk]; decide)]; exact val_17_33 hw x (by omega) hk hx2
    · rw [show d = (34 : Int32) from own_e32 (by rw [f2, hk]; decide)]; exact val_17_34 hw x (by omega) hk hx2
    · rw [show d = (35 : Int32) from own_e32 (by rw [f2, hk]; decide)]; exact val_17_35 hw x (by omega) hk hx2
    · rw [show d = (36 : Int32) from own_e32 (by rw [f2, hk]; decide)]; exact val_17_36 hw x (by omega) hk hx2
    · rw [show d = (37 : Int32) from own_e32 (by rw [f2, hk]; decide)]; exact val_17_37 hw x (by omega) hk hx2
    · rw [show d = (38 : Int32) from own_e32 (by rw [f2, hk]; decide)]; exact val_17_38 hw x (by omega) hk hx2
    · rw [show d = (39 : Int32) from own_e32 (by rw [f2, hk]; decide)]; exact val_17_39 hw x (by omega) hk hx2
    · rw [show d = (40 : Int32) from own_e32 (by rw [f2, hk]; decide)]; exact val_17_40 hw x (by omega) hk hx2
    · rw [show d = (41 : Int32) from own_e32 (by rw [f2, hk]; decide)]; exact val_17_41 hw x (by omega) hk hx2
    · rw [show d = (42 : Int32) from own_e32 (by rw [f2, hk]; decide)]; exact val_17_42 hw x (by omega) hk hx2
    · rw [show d = (43 : Int32) from own_e32 (by rw [f2, hk]; decide)]; exact val_17_43 hw x (by omega) hk hx2
    · rw [show d = (44 : Int32) from own_e32 (by rw [f2, hk]; decide)]; exact val_17_44 hw x (by omega) hk hx2
    · rw [show d = (45 : Int32) from own_e32 (by rw [f2, hk]; decide)]; exact val_17_45 hw x (by omega) hk hx2
    · rw [show d = (46 : Int32) from own_e32 (by rw [f2, hk]; decide)]; exact val_17_46 hw x (by omega) hk hx2
    · rw [show d = (47 : Int32) from own_e32 (by rw [f2, hk]; decide)]; exact val_17_47 hw x (by omega) hk hx2
    · rw [show d = (48 : Int32) from own_e32 (by rw [f2, hk]; decide)]; exact val_17_48 hw x (by omega) hk hx2
    · rw [show d = (49 : Int32) from own_e32 (by rw [f2, hk]; decide)]; exact val_17_49 hw x (by omega) hk hx2
    · rw [show d = (50 : Int32) from own_e32 (by rw [f2, hk]; decide)]; exact val_17_50 hw x (by omega) hk hx2
    · rw [show d = (51 : Int32) from own_e32 (by rw [f2, hk]; decide)]; exact val_17_51 hw x (by omega) hk hx2
    · rw [show d = (52 : Int32) from own_e32 (by rw [f2, hk]; decide)]; exact val_17_52 hw x (by omega) hk hx2
  refine WP.iloadN d5_7 rfl (pc' := 8) rfl ?_
  refine WP.i2l d5_8 (pc' := 9) rfl ?_
  exact WP.retJ d5_9 rfl (by decide) (by decide) ⟨rfl, _, rfl, by rw [c_i2l]; unfold valF; rw [if_pos (by omega)]⟩
theorem vk_0 (L c : Int) (h0 : 0 ≤ L) (h1 : L < 2048) (hc : c = L) : c ≤ 54272 ∧ 0 ≤ c ∧ L ≤ valF c ∧ (c = 0 ∨ valF (c - 1) < L) := by
  have v1 : valF c = c := by unfold valF; rw [if_pos (by omega)]
  have v2 : valF (c - 1) = c - 1 := by unfold valF; rw [if_pos (by omega)]
  rw [v1, v2]; omega
theorem vk_1 (L q r u c : Int) (h1 : L = 2 * q + r) (h2 : 0 ≤ r ∧ r < 2) (hu : (r = 0 ∧ u = 0) ∨ (0 < r ∧ u = 1)) (hq : 1024 ≤ q ∧ q ≤ 2047) (hc : c = 1024 + q + u) : c ≤ 54272 ∧ 0 ≤ c ∧ L ≤ valF c ∧ (c = 0 ∨ valF (c - 1) < L) := by
  by_cases e : q + u ≤ 2047
  · have v1 : valF c = (q + u) * 2 := by unfold valF; rw [if_neg (by omega), show (c / 1024).toNat - 1 = 1 by omega, show (2 : Int) ^ 1 = 2 from by decide]; omega
    by_cases e2 : q + u = 1024
    · have v2 : valF (c - 1) = 2047 := by unfold valF; rw [if_pos (by omega)]; omega
      rw [v1, v2]; omega
    · have v2 : valF (c - 1) = (q + u - 1) * 2 := by unfold valF; rw [if_neg (by omega), show ((c - 1) / 1024).toNat - 1 = 1 by omega, show (2 : Int) ^ 1 = 2 from by decide]; omega
      rw [v1, v2]; omega
  · have v1 : valF c = 1024 * 4 := by unfold valF; rw [if_neg (by omega), show (c / 1024).toNat - 1 = 2 by omega, show (2 : Int) ^ 2 = 4 from by decide]; omega
    have v2 : valF (c - 1) = 2047 * 2 := by unfold valF; rw [if_neg (by omega), show ((c - 1) / 1024).toNat - 1 = 1 by omega, show (2 : Int) ^ 1 = 2 from by decide]; omega
    rw [v1, v2]; omega
theorem vk_2 (L q r u c : Int) (h1 : L = 4 * q + r) (h2 : 0 ≤ r ∧ r < 4) (hu : (r = 0 ∧ u = 0) ∨ (0 < r ∧ u = 1)) (hq : 1024 ≤ q ∧ q ≤ 2047) (hc : c = 2048 + q + u) : c ≤ 54272 ∧ 0 ≤ c ∧ L ≤ valF c ∧ (c = 0 ∨ valF (c - 1) < L) := by
  by_cases e : q + u ≤ 2047
  · have v1 : valF c = (q + u) * 4 := by unfold valF; rw [if_neg (by omega), show (c / 1024).toNat - 1 = 2 by omega, show (2 : Int) ^ 2 = 4 from by decide]; omega
    by_cases e2 : q + u = 1024
    · have v2 : valF (c - 1) = 2047 * 2 := by unfold valF; rw [if_neg (by omega), show ((c - 1) / 1024).toNat - 1 = 1 by omega, show (2 : Int) ^ 1 = 2 from by decide]; omega
      rw [v1, v2]; omega
    · have v2 : valF (c - 1) = (q + u - 1) * 4 := by unfold valF; rw [if_neg (by omega), show ((c - 1) / 1024).toNat - 1 = 2 by omega, show (2 : Int) ^ 2 = 4 from by decide]; omega
      rw [v1, v2]; omega
  · have v1 : valF c = 1024 * 8 := by unfold valF; rw [if_neg (by omega), show (c / 1024).toNat - 1 = 3 by omega, show (2 : Int) ^ 3 = 8 from by decide]; omega
    have v2 : valF (c - 1) = 2047 * 4 := by unfold valF; rw [if_neg (by omega), show ((c - 1) / 1024).toNat - 1 = 2 by omega, show (2 : Int) ^ 2 = 4 from by decide]; omega
    rw [v1, v2]; omega
theorem vk_3 (L q r u c : Int) (h1 : L = 8 * q + r) (h2 : 0 ≤ r ∧ r < 8) (hu : (r = 0 ∧ u = 0) ∨ (0 < r ∧ u = 1)) (hq : 1024 ≤ q ∧ q ≤ 2047) (hc : c = 3072 + q + u) : c ≤ 54272 ∧ 0 ≤ c ∧ L ≤ valF c ∧ (c = 0 ∨ valF (c - 1) < L) := by
  by_cases e : q + u ≤ 2047
  · have v1 : valF c = (q + u) * 8 := by unfold valF; rw [if_neg (by omega), show (c / 1024).toNat - 1 = 3 by omega, show (2 : Int) ^ 3 = 8 from by decide]; omega
    by_cases e2 : q + u = 1024
    · have v2 : valF (c - 1) = 2047 * 4 := by unfold valF; rw [if_neg (by omega), show ((c - 1) / 1024).toNat - 1 = 2 by omega, show (2 : Int) ^ 2 = 4 from by decide]; omega
      rw [v1, v2]; omega
    · have v2 : valF (c - 1) = (q + u - 1) * 8 := by unfold valF; rw [if_neg (by omega), show ((c - 1) / 1024).toNat - 1 = 3 by omega, show (2 : Int) ^ 3 = 8 from by decide]; omega
      rw [v1, v2]; omega
  · have v1 : valF c = 1024 * 16 := by unfold valF; rw [if_neg (by omega), show (c / 1024).toNat - 1 = 4 by omega, show (2 : Int) ^ 4 = 16 from by decide]; omega
    have v2 : valF (c - 1) = 2047 * 8 := by unfold valF; rw [if_neg (by omega), show ((c - 1) / 1024).toNat - 1 = 3 by omega, show (2 : Int) ^ 3 = 8 from by decide]; omega
    rw [v1, v2]; omega
theorem vk_4 (L q r u c : Int) (h1 : L = 16 * q + r) (h2 : 0 ≤ r ∧ r < 16) (hu : (r = 0 ∧ u = 0) ∨ (0 < r ∧ u = 1)) (hq : 1024 ≤ q ∧ q ≤ 2047) (hc : c = 4096 + q + u) : c ≤ 54272 ∧ 0 ≤ c ∧ L ≤ valF c ∧ (c = 0 ∨ valF (c - 1) < L) := by
  by_cases e : q + u ≤ 2047
  · have v1 : valF c = (q + u) * 16 := by unfold valF; rw [if_neg (by omega), show (c / 1024).toNat - 1 = 4 by omega, show (2 : Int) ^ 4 = 16 from by decide]; omega
    by_cases e2 : q + u = 1024
    · have v2 : valF (c - 1) = 2047 * 8 := by unfold valF; rw [if_neg (by omega), show ((c - 1) / 1024).toNat - 1 = 3 by omega, show (2 : Int) ^ 3 = 8 from by decide]; omega
      rw [v1, v2]; omega
    · have v2 : valF (c - 1) = (q + u - 1) * 16 := by unfold valF; rw [if_neg (by omega), show ((c - 1) / 1024).toNat - 1 = 4 by omega, show (2 : Int) ^ 4 = 16 from by decide]; omega
      rw [v1, v2]; omega
  · have v1 : valF c = 1024 * 32 := by unfold valF; rw [if_neg (by omega), show (c / 1024).toNat - 1 = 5 by omega, show (2 : Int) ^ 5 = 32 from by decide]; omega
    have v2 : valF (c - 1) = 2047 * 16 := by unfold valF; rw [if_neg (by omega), show ((c - 1) / 1024).toNat - 1 = 4 by omega, show (2 : Int) ^ 4 = 16 from by decide]; omega
    rw [v1, v2]; omega
theorem vk_5 (L q r u c : Int) (h1 : L = 32 * q + r) (h2 : 0 ≤ r ∧ r < 32) (hu : (r = 0 ∧ u = 0) ∨ (0 < r ∧ u = 1)) (hq : 1024 ≤ q ∧ q ≤ 2047) (hc : c = 5120 + q + u) : c ≤ 54272 ∧ 0 ≤ c ∧ L ≤ valF c ∧ (c = 0 ∨ valF (c - 1) < L) := by
  by_cases e : q + u ≤ 2047
  · have v1 : valF c = (q + u) * 32 := by unfold valF; rw [if_neg (by omega), show (c / 1024).toNat - 1 = 5 by omega, show (2 : Int) ^ 5 = 32 from by decide]; omega
    by_cases e2 : q + u = 1024
    · have v2 : valF (c - 1) = 2047 * 16 := by unfold valF; rw [if_neg (by omega), show ((c - 1) / 1024).toNat - 1 = 4 by omega, show (2 : Int) ^ 4 = 16 from by decide]; omega
      rw [v1, v2]; omega
    · have v2 : valF (c - 1) = (q + u - 1) * 32 := by unfold valF; rw [if_neg (by omega), show ((c - 1) / 1024).toNat - 1 = 5 by omega, show (2 : Int) ^ 5 = 32 from by decide]; omega
      rw [v1, v2]; omega
  · have v1 : valF c = 1024 * 64 := by unfold valF; rw [if_neg (by omega), show (c / 1024).toNat - 1 = 6 by omega, show (2 : Int) ^ 6 = 64 from by decide]; omega
    have v2 : valF (c - 1) = 2047 * 32 := by unfold valF; rw [if_neg (by omega), show ((c - 1) / 1024).toNat - 1 = 5 by omega, show (2 : Int) ^ 5 = 32 from by decide]; omega
    rw [v1, v2]; omega
theorem vk_6 (L q r u c : Int) (h1 : L = 64 * q + r) (h2 : 0 ≤ r ∧ r < 64) (hu : (r = 0 ∧ u = 0) ∨ (0 < r ∧ u = 1)) (hq : 1024 ≤ q ∧ q ≤ 2047) (hc : c = 6144 + q + u) : c ≤ 54272 ∧ 0 ≤ c ∧ L ≤ valF c ∧ (c = 0 ∨ valF (c - 1) < L) := by
  by_cases e : q + u ≤ 2047
  · have v1 : valF c = (q + u) * 64 := by unfold valF; rw [if_neg (by omega), show (c / 1024).toNat - 1 = 6 by omega, show (2 : Int) ^ 6 = 64 from by decide]; omega
    by_cases e2 : q + u = 1024
    · have v2 : valF (c - 1) = 2047 * 32 := by unfold valF; rw [if_neg (by omega), show ((c - 1) / 1024).toNat - 1 = 5 by omega, show (2 : Int) ^ 5 = 32 from by decide]; omega
      rw [v1, v2]; omega
    · have v2 : valF (c - 1) = (q + u - 1) * 64 := by unfold valF; rw [if_neg (by omega), show ((c - 1) / 1024).toNat - 1 = 6 by omega, show (2 : Int) ^ 6 = 64 from by decide]; omega
      rw [v1, v2]; omega
  · have v1 : valF c = 1024 * 128 := by unfold valF; rw [if_neg (by omega), show (c / 1024).toNat - 1 = 7 by omega, show (2 : Int) ^ 7 = 128 from by decide]; omega
    have v2 : valF (c - 1) = 2047 * 64 := by unfold valF; rw [if_neg (by omega), show ((c - 1) / 1024).toNat - 1 = 6 by omega, show (2 : Int) ^ 6 = 64 from by decide]; omega
    rw [v1, v2]; omega
theorem vk_7 (L q r u c : Int) (h1 : L = 128 * q + r) (h2 : 0 ≤ r ∧ r < 128) (hu : (r = 0 ∧ u = 0) ∨ (0 < r ∧ u = 1)) (hq : 1024 ≤ q ∧ q ≤ 2047) (hc : c = 7168 + q + u) : c ≤ 54272 ∧ 0 ≤ c ∧ L ≤ valF c ∧ (c = 0 ∨ valF (c - 1) < L) := by
  by_cases e : q + u ≤ 2047
  · have v1 : valF c = (q + u) * 128 := by unfold valF; rw [if_neg (by omega), show (c / 1024).toNat - 1 = 7 by omega, show (2 : Int) ^ 7 = 128 from by decide]; omega
    by_cases e2 : q + u = 1024
    · have v2 : valF (c - 1) = 2047 * 64 := by unfold valF; rw [if_neg (by omega), show ((c - 1) / 1024).toNat - 1 = 6 by omega, show (2 : Int) ^ 6 = 64 from by decide]; omega
      rw [v1, v2]; omega
    · have v2 : valF (c - 1) = (q + u - 1) * 128 := by unfold valF; rw [if_neg (by omega), show ((c - 1) / 1024).toNat - 1 = 7 by omega, show (2 : Int) ^ 7 = 128 from by decide]; omega
      rw [v1, v2]; omega
  · have v1 : valF c = 1024 * 256 := by unfold valF; rw [if_neg (by omega), show (c / 1024).toNat - 1 = 8 by omega, show (2 : Int) ^ 8 = 256 from by decide]; omega
    have v2 : valF (c - 1) = 2047 * 128 := by unfold valF; rw [if_neg (by omega), show ((c - 1) / 1024).toNat - 1 = 7 by omega, show (2 : Int) ^ 7 = 128 from by decide]; omega
    rw [v1, v2]; omega
theorem vk_8 (L q r u c : Int) (h1 : L = 256 * q + r) (h2 : 0 ≤ r ∧ r < 256) (hu : (r = 0 ∧ u = 0) ∨ (0 < r ∧ u = 1)) (hq : 1024 ≤ q ∧ q ≤ 2047) (hc : c = 8192 + q + u) : c ≤ 54272 ∧ 0 ≤ c ∧ L ≤ valF c ∧ (c = 0 ∨ valF (c - 1) < L) := by
  by_cases e : q + u ≤ 2047
  · have v1 : valF c = (q + u) * 256 := by unfold valF; rw [if_neg (by omega), show (c / 1024).toNat - 1 = 8 by omega, show (2 : Int) ^ 8 = 256 from by decide]; omega
    by_cases e2 : q + u = 1024
    · have v2 : valF (c - 1) = 2047 * 128 := by unfold valF; rw [if_neg (by omega), show ((c - 1) / 1024).toNat - 1 = 7 by omega, show (2 : Int) ^ 7 = 128 from by decide]; omega
      rw [v1, v2]; omega
    · have v2 : valF (c - 1) = (q + u - 1) * 256 := by unfold valF; rw [if_neg (by omega), show ((c - 1) / 1024).toNat - 1 = 8 by omega, show (2 : Int) ^ 8 = 256 from by decide]; omega
      rw [v1, v2]; omega
  · have v1 : valF c = 1024 * 512 := by unfold valF; rw [if_neg (by omega), show (c / 1024).toNat - 1 = 9 by omega, show (2 : Int) ^ 9 = 512 from by decide]; omega
    have v2 : valF (c - 1) = 2047 * 256 := by unfold valF; rw [if_neg (by omega), show ((c - 1) / 1024).toNat - 1 = 8 by omega, show (2 : Int) ^ 8 = 256 from by decide]; omega
    rw [v1, v2]; omega
theorem vk_9 (L q r u c : Int) (h1 : L = 512 * q + r) (h2 : 0 ≤ r ∧ r < 512) (hu : (r = 0 ∧ u = 0) ∨ (0 < r ∧ u = 1)) (hq : 1024 ≤ q ∧ q ≤ 2047) (hc : c = 9216 + q + u) : c ≤ 54272 ∧ 0 ≤ c ∧ L ≤ valF c ∧ (c = 0 ∨ valF (c - 1) < L) := by
  by_cases e : q + u ≤ 2047
  · have v1 : valF c = (q + u) * 512 := by unfold valF; rw [if_neg (by omega), show (c / 1024).toNat - 1 = 9 by omega, show (2 : Int) ^ 9 = 512 from by decide]; omega
    by_cases e2 : q + u = 1024
    · have v2 : valF (c - 1) = 2047 * 256 := by unfold valF; rw [if_neg (by omega), show ((c - 1) / 1024).toNat - 1 = 8 by omega, show (2 : Int) ^ 8 = 256 from by decide]; omega
      rw [v1, v2]; omega
    · have v2 : valF (c - 1) = (q + u - 1) * 512 := by unfold valF; rw [if_neg (by omega), show ((c - 1) / 1024).toNat - 1 = 9 by omega, show (2 : Int) ^ 9 = 512 from by decide]; omega
      rw [v1, v2]; omega
  · have v1 : valF c = 1024 * 1024 := by unfold valF; rw [if_neg (by omega), show (c / 1024).toNat - 1 = 10 by omega, show (2 : Int) ^ 10 = 1024 from by decide]; omega
    have v2 : valF (c - 1) = 2047 * 512 := by unfold valF; rw [if_neg (by omega), show ((c - 1) / 1024).toNat - 1 = 9 by omega, show (2 : Int) ^ 9 = 512 from by decide]; omega
    rw [v1, v2]; omega
theorem vk_10 (L q r u c : Int) (h1 : L = 1024 * q + r) (h2 : 0 ≤ r ∧ r < 1024) (hu : (r = 0 ∧ u = 0) ∨ (0 < r ∧ u = 1)) (hq : 1024 ≤ q ∧ q ≤ 2047) (hc : c = 10240 + q + u) : c ≤ 54272 ∧ 0 ≤ c ∧ L ≤ valF c ∧ (c = 0 ∨ valF (c - 1) < L) := by
  by_cases e : q + u ≤ 2047
  · have v1 : valF c = (q + u) * 1024 := by unfold valF; rw [if_neg (by omega), show (c / 1024).toNat - 1 = 10 by omega, show (2 : Int) ^ 10 = 1024 from by decide]; omega
    by_cases e2 : q + u = 1024
    · have v2 : valF (c - 1) = 2047 * 512 := by unfold valF; rw [if_neg (by omega), show ((c - 1) / 1024).toNat - 1 = 9 by omega, show (2 : Int) ^ 9 = 512 from by decide]; omega
      rw [v1, v2]; omega
    · have v2 : valF (c - 1) = (q + u - 1) * 1024 := by unfold valF; rw [if_neg (by omega), show ((c - 1) / 1024).toNat - 1 = 10 by omega, show (2 : Int) ^ 10 = 1024 from by decide]; omega
      rw [v1, v2]; omega
  · have v1 : valF c = 1024 * 2048 := by unfold valF; rw [if_neg (by omega), show (c / 1024).toNat - 1 = 11 by omega, show (2 : Int) ^ 11 = 2048 from by decide]; omega
    have v2 : valF (c - 1) = 2047 * 1024 := by unfold valF; rw [if_neg (by omega), show ((c - 1) / 1024).toNat - 1 = 10 by omega, show (2 : Int) ^ 10 = 1024 from by decide]; omega
    rw [v1, v2]; omega
theorem vk_11 (L q r u c : Int) (h1 : L = 2048 * q + r) (h2 : 0 ≤ r ∧ r < 2048) (hu : (r = 0 ∧ u = 0) ∨ (0 < r ∧ u = 1)) (hq : 1024 ≤ q ∧ q ≤ 2047) (hc : c = 11264 + q + u) : c ≤ 54272 ∧ 0 ≤ c ∧ L ≤ valF c ∧ (c = 0 ∨ valF (c - 1) < L) := by
  by_cases e : q + u ≤ 2047
  · have v1 : valF c = (q + u) * 2048 := by unfold valF; rw [if_neg (by omega), show (c / 1024).toNat - 1 = 11 by omega, show (2 : Int) ^ 11 = 2048 from by decide]; omega
    by_cases e2 : q + u = 1024
    · have v2 : valF (c - 1) = 2047 * 1024 := by unfold valF; rw [if_neg (by omega), show ((c - 1) / 1024).toNat - 1 = 10 by omega, show (2 : Int) ^ 10 = 1024 from by decide]; omega
      rw [v1, v2]; omega
    · have v2 : valF (c - 1) = (q + u - 1) * 2048 := by unfold valF; rw [if_neg (by omega), show ((c - 1) / 1024).toNat - 1 = 11 by omega, show (2 : Int) ^ 11 = 2048 from by decide]; omega
      rw [v1, v2]; omega
  · have v1 : valF c = 1024 * 4096 := by unfold valF; rw [if_neg (by omega), show (c / 1024).toNat - 1 = 12 by omega, show (2 : Int) ^ 12 = 4096 from by decide]; omega
    have v2 : valF (c - 1) = 2047 * 2048 := by unfold valF; rw [if_neg (by omega), show ((c - 1) / 1024).toNat - 1 = 11 by omega, show (2 : Int) ^ 11 = 2048 from by decide]; omega
    rw [v1, v2]; omega
theorem vk_12 (L q r u c : Int) (h1 : L = 4096 * q + r) (h2 : 0 ≤ r ∧ r < 4096) (hu : (r = 0 ∧ u = 0) ∨ (0 < r ∧ u = 1)) (hq : 1024 ≤ q ∧ q ≤ 2047) (hc : c = 12288 + q + u) : c ≤ 54272 ∧ 0 ≤ c ∧ L ≤ valF c ∧ (c = 0 ∨ valF (c - 1) < L) := by
  by_cases e : q + u ≤ 2047
  · have v1 : valF c = (q + u) * 4096 := by unfold valF; rw [if_neg (by omega), show (c / 1024).toNat - 1 = 12 by omega, show (2 : Int) ^ 12 = 4096 from by decide]; omega
    by_cases e2 : q + u = 1024
    · have v2 : valF (c - 1) = 2047 * 2048 := by unfold valF; rw [if_neg (by omega), show ((c - 1) / 1024).toNat - 1 = 11 by omega, show (2 : Int) ^ 11 = 2048 from by decide]; omega
      rw [v1, v2]; omega
    · have v2 : valF (c - 1) = (q + u - 1) * 4096 := by unfold valF; rw [if_neg (by omega), show ((c - 1) / 1024).toNat - 1 = 12 by omega, show (2 : Int) ^ 12 = 4096 from by decide]; omega
      rw [v1, v2]; omega
  · have v1 : valF c = 1024 * 8192 := by unfold valF; rw [if_neg (by omega), show (c / 1024).toNat - 1 = 13 by omega, show (2 : Int) ^ 13 = 8192 from by decide]; omega
    have v2 : valF (c - 1) = 2047 * 4096 := by unfold valF; rw [if_neg (by omega), show ((c - 1) / 1024).toNat - 1 = 12 by omega, show (2 : Int) ^ 12 = 4096 from by decide]; omega
    rw [v1, v2]; omega
theorem vk_13 (L q r u c : Int) (h1 : L = 8192 * q + r) (h2 : 0 ≤ r ∧ r < 8192) (hu : (r = 0 ∧ u = 0) ∨ (0 < r ∧ u = 1)) (hq : 1024 ≤ q ∧ q ≤ 2047) (hc : c = 13312 + q + u) : c ≤ 54272 ∧ 0 ≤ c ∧ L ≤ valF c ∧ (c = 0 ∨ valF (c - 1) < L) := by
  by_cases e : q + u ≤ 2047
  · have v1 : valF c = (q + u) * 8192 := by unfold valF; rw [if_neg (by omega), show (c / 1024).toNat - 1 = 13 by omega, show (2 : Int) ^ 13 = 8192 from by decide]; omega
    by_cases e2 : q + u = 1024
    · have v2 : valF (c - 1) = 2047 * 4096 := by unfold valF; rw [if_neg (by omega), show ((c - 1) / 1024).toNat - 1 = 12 by omega, show (2 : Int) ^ 12 = 4096 from by decide]; omega
      rw [v1, v2]; omega
    · have v2 : valF (c - 1) = (q + u - 1) * 8192 := by unfold valF; rw [if_neg (by omega), show ((c - 1) / 1024).toNat - 1 = 13 by omega, show (2 : Int) ^ 13 = 8192 from by decide]; omega
      rw [v1, v2]; omega
  · have v1 : valF c = 1024 * 16384 := by unfold valF; rw [if_neg (by omega), show (c / 1024).toNat - 1 = 14 by omega, show (2 : Int) ^ 14 = 16384 from by decide]; omega
    have v2 : valF (c - 1) = 2047 * 8192 := by unfold valF; rw [if_neg (by omega), show ((c - 1) / 1024).toNat - 1 = 13 by omega, show (2 : Int) ^ 13 = 8192 from by decide]; omega
    rw [v1, v2]; omega
theorem vk_14 (L q r u c : Int) (h1 : L = 16384 * q + r) (h2 : 0 ≤ r ∧ r < 16384) (hu : (r = 0 ∧ u = 0) ∨ (0 < r ∧ u = 1)) (hq : 1024 ≤ q ∧ q ≤ 2047) (hc : c = 14336 + q + u) : c ≤ 54272 ∧ 0 ≤ c ∧ L ≤ valF c ∧ (c = 0 ∨ valF (c - 1) < L) := by
  by_cases e : q + u ≤ 2047
  · have v1 : valF c = (q + u) * 16384 := by unfold valF; rw [if_neg (by omega), show (c / 1024).toNat - 1 = 14 by omega, show (2 : Int) ^ 14 = 16384 from by decide]; omega
    by_cases e2 : q + u = 1024
    · have v2 : valF (c - 1) = 2047 * 8192 := by unfold valF; rw [if_neg (by omega), show ((c - 1) / 1024).toNat - 1 = 13 by omega, show (2 : Int) ^ 13 = 8192 from by decide]; omega
      rw [v1, v2]; omega
    · have v2 : valF (c - 1) = (q + u - 1) * 16384 := by unfold valF; rw [if_neg (by omega), show ((c - 1) / 1024).toNat - 1 = 14 by omega, show (2 : Int) ^ 14 = 16384 from by decide]; omega
      rw [v1, v2]; omega
  · have v1 : valF c = 1024 * 32768 := by unfold valF; rw [if_neg (by omega), show (c / 1024).toNat - 1 = 15 by omega, show (2 : Int) ^ 15 = 32768 from by decide]; omega
    have v2 : valF (c - 1) = 2047 * 16384 := by unfold valF; rw [if_neg (by omega), show ((c - 1) / 1024).toNat - 1 = 14 by omega, show (2 : Int) ^ 14 = 16384 from by decide]; omega
    rw [v1, v2]; omega
theorem vk_15 (L q r u c : Int) (h1 : L = 32768 * q + r) (h2 : 0 ≤ r ∧ r < 32768) (hu : (r = 0 ∧ u = 0) ∨ (0 < r ∧ u = 1)) (hq : 1024 ≤ q ∧ q ≤ 2047) (hc : c = 15360 + q + u) : c ≤ 54272 ∧ 0 ≤ c ∧ L ≤ valF c ∧ (c = 0 ∨ valF (c - 1) < L) := by
  by_cases e : q + u ≤ 2047
  · have v1 : valF c = (q + u) * 32768 := by unfold valF; rw [if_neg (by omega), show (c / 1024).toNat - 1 = 15 by omega, show (2 : Int) ^ 15 = 32768 from by decide]; omega
    by_cases e2 : q + u = 1024
    · have v2 : valF (c - 1) = 2047 * 16384 := by unfold valF; rw [if_neg (by omega), show ((c - 1) / 1024).toNat - 1 = 14 by omega, show (2 : Int) ^ 14 = 16384 from by decide]; omega
      rw [v1, v2]; omega
    · have v2 : valF (c - 1) = (q + u - 1) * 32768 := by unfold valF; rw [if_neg (by omega), show ((c - 1) / 1024).toNat - 1 = 15 by omega, show (2 : Int) ^ 15 = 32768 from by decide]; omega
      rw [v1, v2]; omega
  · have v1 : valF c = 1024 * 65536 := by unfold valF; rw [if_neg (by omega), show (c / 1024).toNat - 1 = 16 by omega, show (2 : Int) ^ 16 = 65536 from by decide]; omega
    have v2 : valF (c - 1) = 2047 * 32768 := by unfold valF; rw [if_neg (by omega), show ((c - 1) / 1024).toNat - 1 = 15 by omega, show (2 : Int) ^ 15 = 32768 from by decide]; omega
    rw [v1, v2]; omega
theorem vk_16 (L q r u c : Int) (h1 : L = 65536 * q + r) (h2 : 0 ≤ r ∧ r < 65536) (hu : (r = 0 ∧ u = 0) ∨ (0 < r ∧ u = 1)) (hq : 1024 ≤ q ∧ q ≤ 2047) (hc : c = 16384 + q + u) : c ≤ 54272 ∧ 0 ≤ c ∧ L ≤ valF c ∧ (c = 0 ∨ valF (c - 1) < L) := by
  by_cases e : q + u ≤ 2047
  · have v1 : valF c = (q + u) * 65536 := by unfold valF; rw [if_neg (by omega), show (c / 1024).toNat - 1 = 16 by omega, show (2 : Int) ^ 16 = 65536 from by decide]; omega
    by_cases e2 : q + u = 1024
    · have v2 : valF (c - 1) = 2047 * 32768 := by unfold valF; rw [if_neg (by omega), show ((c - 1) / 1024).toNat - 1 = 15 by omega, show (2 : Int) ^ 15 = 32768 from by decide]; omega
      rw [v1, v2]; omega
    · have v2 : valF (c - 1) = (q + u - 1) * 65536 := by unfold valF; rw [if_neg (by omega), show ((c - 1) / 1024).toNat - 1 = 16 by omega, show (2 : Int) ^ 16 = 65536 from by decide]; omega
      rw [v1, v2]; omega
  · have v1 : valF c = 1024 * 131072 := by unfold valF; rw [if_neg (by omega), show (c / 1024).toNat - 1 = 17 by omega, show (2 : Int) ^ 17 = 131072 from by decide]; omega
    have v2 : valF (c - 1) = 2047 * 65536 := by unfold valF; rw [if_neg (by omega), show ((c - 1) / 1024).toNat - 1 = 16 by omega, show (2 : Int) ^ 16 = 65536 from by decide]; omega
    rw [v1, v2]; omega
theorem vk_17 (L q r u c : Int) (h1 : L = 131072 * q + r) (h2 : 0 ≤ r ∧ r < 131072) (hu : (r = 0 ∧ u = 0) ∨ (0 < r ∧ u = 1)) (hq : 1024 ≤ q ∧ q ≤ 2047) (hc : c = 17408 + q + u) : c ≤ 54272 ∧ 0 ≤ c ∧ L ≤ valF c ∧ (c = 0 ∨ valF (c - 1) < L) := by
  by_cases e : q + u ≤ 2047
  · have v1 : valF c = (q + u) * 131072 := by unfold valF; rw [if_neg (by omega), show (c / 1024).toNat - 1 = 17 by omega, show (2 : Int) ^ 17 = 131072 from by decide]; omega
    by_cases e2 : q + u = 1024
    · have v2 : valF (c - 1) = 2047 * 65536 := by unfold valF; rw [if_neg (by omega), show ((c - 1) / 1024).toNat - 1 = 16 by omega, show (2 : Int) ^ 16 = 65536 from by decide]; omega
      rw [v1, v2]; omega
    · have v2 : valF (c - 1) = (q + u - 1) * 131072 := by unfold valF; rw [if_neg (by omega), show ((c - 1) / 1024).toNat - 1 = 17 by omega, show (2 : Int) ^ 17 = 131072 from by decide]; omega
      rw [v1, v2]; omega
  · have v1 : valF c = 1024 * 262144 := by unfold valF; rw [if_neg (by omega), show (c / 1024).toNat - 1 = 18 by omega, show (2 : Int) ^ 18 = 262144 from by decide]; omega
    have v2 : valF (c - 1) = 2047 * 131072 := by unfold valF; rw [if_neg (by omega), show ((c - 1) / 1024).toNat - 1 = 17 by omega, show (2 : Int) ^ 17 = 131072 from by decide]; omega
    rw [v1, v2]; omega
theorem vk_18 (L q r u c : Int) (h1 : L = 262144 * q + r) (h2 : 0 ≤ r ∧ r < 262144) (hu : (r = 0 ∧ u = 0) ∨ (0 < r ∧ u = 1)) (hq : 1024 ≤ q ∧ q ≤ 2047) (hc : c = 18432 + q + u) : c ≤ 54272 ∧ 0 ≤ c ∧ L ≤ valF c ∧ (c = 0 ∨ valF (c - 1) < L) := by
  by_cases e : q + u ≤ 2047
  · have v1 : valF c = (q + u) * 262144 := by unfold valF; rw [if_neg (by omega), show (c / 1024).toNat - 1 = 18 by omega, show (2 : Int) ^ 18 = 262144 from by decide]; omega
    by_cases e2 : q + u = 1024
    · have v2 : valF (c - 1) = 2047 * 131072 := by unfold valF; rw [if_neg (by omega), show ((c - 1) / 1024).toNat - 1 = 17 by omega, show (2 : Int) ^ 17 = 131072 from by decide]; omega
      rw [v1, v2]; omega
    · have v2 : valF (c - 1) = (q + u - 1) * 262144 := by unfold valF; rw [if_neg (by omega), show ((c - 1) / 1024).toNat - 1 = 18 by omega, show (2 : Int) ^ 18 = 262144 from by decide]; omega
      rw [v1, v2]; omega
  · have v1 : valF c = 1024 * 524288 := by unfold valF; rw [if_neg (by omega), show (c / 1024).toNat - 1 = 19 by omega, show (2 : Int) ^ 19 = 524288 from by decide]; omega
    have v2 : valF (c - 1) = 2047 * 262144 := by unfold valF; rw [if_neg (by omega), show ((c - 1) / 1024).toNat - 1 = 18 by omega, show (2 : Int) ^ 18 = 262144 from by decide]; omega
    rw [v1, v2]; omega
theorem vk_19 (L q r u c : Int) (h1 : L = 524288 * q + r) (h2 : 0 ≤ r ∧ r < 524288) (hu : (r = 0 ∧ u = 0) ∨ (0 < r ∧ u = 1)) (hq : 1024 ≤ q ∧ q ≤ 2047) (hc : c = 19456 + q + u) : c ≤ 54272 ∧ 0 ≤ c ∧ L ≤ valF c ∧ (c = 0 ∨ valF (c - 1) < L) := by
  by_cases e : q + u ≤ 2047
  · have v1 : valF c = (q + u) * 524288 := by unfold valF; rw [if_neg (by omega), show (c / 1024).toNat - 1 = 19 by omega, show (2 : Int) ^ 19 = 524288 from by decide]; omega
    by_cases e2 : q + u = 1024
    · have v2 : valF (c - 1) = 2047 * 262144 := by unfold valF; rw [if_neg (by omega), show ((c - 1) / 1024).toNat - 1 = 18 by omega, show (2 : Int) ^ 18 = 262144 from by decide]; omega
      rw [v1, v2]; omega
    · have v2 : valF (c - 1) = (q + u - 1) * 524288 := by unfold valF; rw [if_neg (by omega), show ((c - 1) / 1024).toNat - 1 = 19 by omega, show (2 : Int) ^ 19 = 524288 from by decide]; omega
      rw [v1, v2]; omega
  · have v1 : valF c = 1024 * 1048576 := by unfold valF; rw [if_neg (by omega), show (c / 1024).toNat - 1 = 20 by omega, show (2 : Int) ^ 20 = 1048576 from by decide]; omega
    have v2 : valF (c - 1) = 2047 * 524288 := by unfold valF; rw [if_neg (by omega), show ((c - 1) / 1024).toNat - 1 = 19 by omega, show (2 : Int) ^ 19 = 524288 from by decide]; omega
    rw [v1, v2]; omega
theorem vk_20 (L q r u c : Int) (h1 : L = 1048576 * q + r) (h2 : 0 ≤ r ∧ r < 1048576) (hu : (r = 0 ∧ u = 0) ∨ (0 < r ∧ u = 1)) (hq : 1024 ≤ q ∧ q ≤ 2047) (hc : c = 20480 + q + u) : c ≤ 54272 ∧ 0 ≤ c ∧ L ≤ valF c ∧ (c = 0 ∨ valF (c - 1) < L) := by
  by_cases e : q + u ≤ 2047
  · have v1 : valF c = (q + u) * 1048576 := by unfold valF; rw [if_neg (by omega), show (c / 1024).toNat - 1 = 20 by omega, show (2 : Int) ^ 20 = 1048576 from by decide]; omega
    by_cases e2 : q + u = 1024
    · have v2 : valF (c - 1) = 2047 * 524288 := by unfold valF; rw [if_neg (by omega), show ((c - 1) / 1024).toNat - 1 = 19 by omega, show (2 : Int) ^ 19 = 524288 from by decide]; omega
      rw [v1, v2]; omega
    · have v2 : valF (c - 1) = (q + u - 1) * 1048576 := by unfold valF; rw [if_neg (by omega), show ((c - 1) / 1024).toNat - 1 = 20 by omega, show (2 : Int) ^ 20 = 1048576 from by decide]; omega
      rw [v1, v2]; omega
  · have v1 : valF c = 1024 * 2097152 := by unfold valF; rw [if_neg (by omega), show (c / 1024).toNat - 1 = 21 by omega, show (2 : Int) ^ 21 = 2097152 from by decide]; omega
    have v2 : valF (c - 1) = 2047 * 1048576 := by unfold valF; rw [if_neg (by omega), show ((c - 1) / 1024).toNat - 1 = 20 by omega, show (2 : Int) ^ 20 = 1048576 from by decide]; omega
    rw [v1, v2]; omega
theorem vk_21 (L q r u c : Int) (h1 : L = 2097152 * q + r) (h2 : 0 ≤ r ∧ r < 2097152) (hu : (r = 0 ∧ u = 0) ∨ (0 < r ∧ u = 1)) (hq : 1024 ≤ q ∧ q ≤ 2047) (hc : c = 21504 + q + u) : c ≤ 54272 ∧ 0 ≤ c ∧ L ≤ valF c ∧ (c = 0 ∨ valF (c - 1) < L) := by
  by_cases e : q + u ≤ 2047
  · have v1 : valF c = (q + u) * 2097152 := by unfold valF; rw [if_neg (by omega), show (c / 1024).toNat - 1 = 21 by omega, show (2 : Int) ^ 21 = 2097152 from by decide]; omega
    by_cases e2 : q + u = 1024
    · have v2 : valF (c - 1) = 2047 * 1048576 := by unfold valF; rw [if_neg (by omega), show ((c - 1) / 1024).toNat - 1 = 20 by omega, show (2 : Int) ^ 20 = 1048576 from by decide]; omega
      rw [v1, v2]; omega
    · have v2 : valF (c - 1) = (q + u - 1) * 2097152 := by unfold valF; rw [if_neg (by omega), show ((c - 1) / 1024).toNat - 1 = 21 by omega, show (2 : Int) ^ 21 = 2097152 from by decide]; omega
      rw [v1, v2]; omega
  · have v1 : valF c = 1024 * 4194304 := by unfold valF; rw [if_neg (by omega), show (c / 1024).toNat - 1 = 22 by omega, show (2 : Int) ^ 22 = 4194304 from by decide]; omega
    have v2 : valF (c - 1) = 2047 * 2097152 := by unfold valF; rw [if_neg (by omega), show ((c - 1) / 1024).toNat - 1 = 21 by omega, show (2 : Int) ^ 21 = 2097152 from by decide]; omega
    rw [v1, v2]; omega
theorem vk_22 (L q r u c : Int) (h1 : L = 4194304 * q + r) (h2 : 0 ≤ r ∧ r < 4194304) (hu : (r = 0 ∧ u = 0) ∨ (0 < r ∧ u = 1)) (hq : 1024 ≤ q ∧ q ≤ 2047) (hc : c = 22528 + q + u) : c ≤ 54272 ∧ 0 ≤ c ∧ L ≤ valF c ∧ (c = 0 ∨ valF (c - 1) < L) := by
  by_cases e : q + u ≤ 2047
  · have v1 : valF c = (q + u) * 4194304 := by unfold valF; rw [if_neg (by omega), show (c / 1024).toNat - 1 = 22 by omega, show (2 : Int) ^ 22 = 4194304 from by decide]; omega
    by_cases e2 : q + u = 1024
    · have v2 : valF (c - 1) = 2047 * 2097152 := by unfold valF; rw [if_neg (by omega), show ((c - 1) / 1024).toNat - 1 = 21 by omega, show (2 : Int) ^ 21 = 2097152 from by decide]; omega
      rw [v1, v2]; omega
    · have v2 : valF (c - 1) = (q + u - 1) * 4194304 := by unfold valF; rw [if_neg (by omega), show ((c - 1) / 1024).toNat - 1 = 22 by omega, show (2 : Int) ^ 22 = 4194304 from by decide]; omega
      rw [v1, v2]; omega
  · have v1 : valF c = 1024 * 8388608 := by unfold valF; rw [if_neg (by omega), show (c / 1024).toNat - 1 = 23 by omega, show (2 : Int) ^ 23 = 8388608 from by decide]; omega
    have v2 : valF (c - 1) = 2047 * 4194304 := by unfold valF; rw [if_neg (by omega), show ((c - 1) / 1024).toNat - 1 = 22 by omega, show (2 : Int) ^ 22 = 4194304 from by decide]; omega
    rw [v1, v2]; omega
theorem vk_23 (L q r u c : Int) (h1 : L = 8388608 * q + r) (h2 : 0 ≤ r ∧ r < 8388608) (hu : (r = 0 ∧ u = 0) ∨ (0 < r ∧ u = 1)) (hq : 1024 ≤ q ∧ q ≤ 2047) (hc : c = 23552 + q + u) : c ≤ 54272 ∧ 0 ≤ c ∧ L ≤ valF c ∧ (c = 0 ∨ valF (c - 1) < L) := by
  by_cases e : q + u ≤ 2047
  · have v1 : valF c = (q + u) * 8388608 := by unfold valF; rw [if_neg (by omega), show (c / 1024).toNat - 1 = 23 by omega, show (2 : Int) ^ 23 = 8388608 from by decide]; omega
    by_cases e2 : q + u = 1024
    · have v2 : valF (c - 1) = 2047 * 4194304 := by unfold valF; rw [if_neg (by omega), show ((c - 1) / 1024).toNat - 1 = 22 by omega, show (2 : Int) ^ 22 = 4194304 from by decide]; omega
      rw [v1, v2]; omega
    · have v2 : valF (c - 1) = (q + u - 1) * 8388608 := by unfold valF; rw [if_neg (by omega), show ((c - 1) / 1024).toNat - 1 = 23 by omega, show (2 : Int) ^ 23 = 8388608 from by decide]; omega
      rw [v1, v2]; omega
  · have v1 : valF c = 1024 * 16777216 := by unfold valF; rw [if_neg (by omega), show (c / 1024).toNat - 1 = 24 by omega, show (2 : Int) ^ 24 = 16777216 from by decide]; omega
    have v2 : valF (c - 1) = 2047 * 8388608 := by unfold valF; rw [if_neg (by omega), show ((c - 1) / 1024).toNat - 1 = 23 by omega, show (2 : Int) ^ 23 = 8388608 from by decide]; omega
    rw [v1, v2]; omega
theorem vk_24 (L q r u c : Int) (h1 : L = 16777216 * q + r) (h2 : 0 ≤ r ∧ r < 16777216) (hu : (r = 0 ∧ u = 0) ∨ (0 < r ∧ u = 1)) (hq : 1024 ≤ q ∧ q ≤ 2047) (hc : c = 24576 + q + u) : c ≤ 54272 ∧ 0 ≤ c ∧ L ≤ valF c ∧ (c = 0 ∨ valF (c - 1) < L) := by
  by_cases e : q + u ≤ 2047
  · have v1 : valF c = (q + u) * 16777216 := by unfold valF; rw [if_neg (by omega), show (c / 1024).toNat - 1 = 24 by omega, show (2 : Int) ^ 24 = 16777216 from by decide]; omega
    by_cases e2 : q + u = 1024
    · have v2 : valF (c - 1) = 2047 * 8388608 := by unfold valF; rw [if_neg (by omega), show ((c - 1) / 1024).toNat - 1 = 23 by omega, show (2 : Int) ^ 23 = 8388608 from by decide]; omega
      rw [v1, v2]; omega
    · have v2 : valF (c - 1) = (q + u - 1) * 16777216 := by unfold valF; rw [if_neg (by omega), show ((c - 1) / 1024).toNat - 1 = 24 by omega, show (2 : Int) ^ 24 = 16777216 from by decide]; omega
      rw [v1, v2]; omega
  · have v1 : valF c = 1024 * 33554432 := by unfold valF; rw [if_neg (by omega), show (c / 1024).toNat - 1 = 25 by omega, show (2 : Int) ^ 25 = 33554432 from by decide]; omega
    have v2 : valF (c - 1) = 2047 * 16777216 := by unfold valF; rw [if_neg (by omega), show ((c - 1) / 1024).toNat - 1 = 24 by omega, show (2 : Int) ^ 24 = 16777216 from by decide]; omega
    rw [v1, v2]; omega
theorem vk_25 (L q r u c : Int) (h1 : L = 33554432 * q + r) (h2 : 0 ≤ r ∧ r < 33554432) (hu : (r = 0 ∧ u = 0) ∨ (0 < r ∧ u = 1)) (hq : 1024 ≤ q ∧ q ≤ 2047) (hc : c = 25600 + q + u) : c ≤ 54272 ∧ 0 ≤ c ∧ L ≤ valF c ∧ (c = 0 ∨ valF (c - 1) < L) := by
  by_cases e : q + u ≤ 2047
  · have v1 : valF c = (q + u) * 33554432 := by unfold valF; rw [if_neg (by omega), show (c / 1024).toNat - 1 = 25 by omega, show (2 : Int) ^ 25 = 33554432 from by decide]; omega
    by_cases e2 : q + u = 1024
    · have v2 : valF (c - 1) = 2047 * 16777216 := by unfold valF; rw [if_neg (by omega), show ((c - 1) / 1024).toNat - 1 = 24 by omega, show (2 : Int) ^ 24 = 16777216 from by decide]; omega
      rw [v1, v2]; omega
    · have v2 : valF (c - 1) = (q + u - 1) * 33554432 := by unfold valF; rw [if_neg (by omega), show ((c - 1) / 1024).toNat - 1 = 25 by omega, show (2 : Int) ^ 25 = 33554432 from by decide]; omega
      rw [v1, v2]; omega
  · have v1 : valF c = 1024 * 67108864 := by unfold valF; rw [if_neg (by omega), show (c / 1024).toNat - 1 = 26 by omega, show (2 : Int) ^ 26 = 67108864 from by decide]; omega
    have v2 : valF (c - 1) = 2047 * 33554432 := by unfold valF; rw [if_neg (by omega), show ((c - 1) / 1024).toNat - 1 = 25 by omega, show (2 : Int) ^ 25 = 33554432 from by decide]; omega
    rw [v1, v2]; omega
theorem vk_26 (L q r u c : Int) (h1 : L = 67108864 * q + r) (h2 : 0 ≤ r ∧ r < 67108864) (hu : (r = 0 ∧ u = 0) ∨ (0 < r ∧ u = 1)) (hq : 1024 ≤ q ∧ q ≤ 2047) (hc : c = 26624 + q + u) : c ≤ 54272 ∧ 0 ≤ c ∧ L ≤ valF c ∧ (c = 0 ∨ valF (c - 1) < L) := by
  by_cases e : q + u ≤ 2047
  · have v1 : valF c = (q + u) * 67108864 := by unfold valF; rw [if_neg (by omega), show (c / 1024).toNat - 1 = 26 by omega, show (2 : Int) ^ 26 = 67108864 from by decide]; omega
    by_cases e2 : q + u = 1024
    · have v2 : valF (c - 1) = 2047 * 33554432 := by unfold valF; rw [if_neg (by omega), show ((c - 1) / 1024).toNat - 1 = 25 by omega, show (2 : Int) ^ 25 = 33554432 from by decide]; omega
      rw [v1, v2]; omega
    · have v2 : valF (c - 1) = (q + u - 1) * 67108864 := by unfold valF; rw [if_neg (by omega), show ((c - 1) / 1024).toNat - 1 = 26 by omega, show (2 : Int) ^ 26 = 67108864 from by decide]; omega
      rw [v1, v2]; omega
  · have v1 : valF c = 1024 * 134217728 := by unfold valF; rw [if_neg (by omega), show (c / 1024).toNat - 1 = 27 by omega, show (2 : Int) ^ 27 = 134217728 from by decide]; omega
    have v2 : valF (c - 1) = 2047 * 67108864 := by unfold valF; rw [if_neg (by omega), show ((c - 1) / 1024).toNat - 1 = 26 by omega, show (2 : Int) ^ 26 = 67108864 from by decide]; omega
    rw [v1, v2]; omega
theorem vk_27 (L q r u c : Int) (h1 : L = 134217728 * q + r) (h2 : 0 ≤ r ∧ r < 134217728) (hu : (r = 0 ∧ u = 0) ∨ (0 < r ∧ u = 1)) (hq : 1024 ≤ q ∧ q ≤ 2047) (hc : c = 27648 + q + u) : c ≤ 54272 ∧ 0 ≤ c ∧ L ≤ valF c ∧ (c = 0 ∨ valF (c - 1) < L) := by
  by_cases e : q + u ≤ 2047
  · have v1 : valF c = (q + u) * 134217728 := by unfold valF; rw [if_neg (by omega), show (c / 1024).toNat - 1 = 27 by omega, show (2 : Int) ^ 27 = 134217728 from by decide]; omega
    by_cases e2 : q + u = 1024
    · have v2 : valF (c - 1) = 2047 * 67108864 := by unfold valF; rw [if_neg (by omega), show ((c - 1) / 1024).toNat - 1 = 26 by omega, show (2 : Int) ^ 26 = 67108864 from by decide]; omega
      rw [v1, v2]; omega
    · have v2 : valF (c - 1) = (q + u - 1) * 134217728 := by unfold valF; rw [if_neg (by omega), show ((c - 1) / 1024).toNat - 1 = 27 by omega, show (2 : Int) ^ 27 = 134217728 from by decide]; omega
      rw [v1, v2]; omega
  · have v1 : valF c = 1024 * 268435456 := by unfold valF; rw [if_neg (by omega), show (c / 1024).toNat - 1 = 28 by omega, show (2 : Int) ^ 28 = 268435456 from by decide]; omega
    have v2 : valF (c - 1) = 2047 * 134217728 := by unfold valF; rw [if_neg (by omega), show ((c - 1) / 1024).toNat - 1 = 27 by omega, show (2 : Int) ^ 27 = 134217728 from by decide]; omega
    rw [v1, v2]; omega
theorem vk_28 (L q r u c : Int) (h1 : L = 268435456 * q + r) (h2 : 0 ≤ r ∧ r < 268435456) (hu : (r = 0 ∧ u = 0) ∨ (0 < r ∧ u = 1)) (hq : 1024 ≤ q ∧ q ≤ 2047) (hc : c = 28672 + q + u) : c ≤ 54272 ∧ 0 ≤ c ∧ L ≤ valF c ∧ (c = 0 ∨ valF (c - 1) < L) := by
  by_cases e : q + u ≤ 2047
  · have v1 : valF c = (q + u) * 268435456 := by unfold valF; rw [if_neg (by omega), show (c / 1024).toNat - 1 = 28 by omega, show (2 : Int) ^ 28 = 268435456 from by decide]; omega
    by_cases e2 : q + u = 1024
    · have v2 : valF (c - 1) = 2047 * 134217728 := by unfold valF; rw [if_neg (by omega), show ((c - 1) / 1024).toNat - 1 = 27 by omega, show (2 : Int) ^ 27 = 134217728 from by decide]; omega
      rw [v1, v2]; omega
    · have v2 : valF (c - 1) = (q + u - 1) * 268435456 := by unfold valF; rw [if_neg (by omega), show ((c - 1) / 1024).toNat - 1 = 28 by omega, show (2 : Int) ^ 28 = 268435456 from by decide]; omega
      rw [v1, v2]; omega
  · have v1 : valF c = 1024 * 536870912 := by unfold valF; rw [if_neg (by omega), show (c / 1024).toNat - 1 = 29 by omega, show (2 : Int) ^ 29 = 536870912 from by decide]; omega
    have v2 : valF (c - 1) = 2047 * 268435456 := by unfold valF; rw [if_neg (by omega), show ((c - 1) / 1024).toNat - 1 = 28 by omega, show (2 : Int) ^ 28 = 268435456 from by decide]; omega
    rw [v1, v2]; omega
theorem vk_29 (L q r u c : Int) (h1 : L = 536870912 * q + r) (h2 : 0 ≤ r ∧ r < 536870912) (hu : (r = 0 ∧ u = 0) ∨ (0 < r ∧ u = 1)) (hq : 1024 ≤ q ∧ q ≤ 2047) (hc : c = 29696 + q + u) : c ≤ 54272 ∧ 0 ≤ c ∧ L ≤ valF c ∧ (c = 0 ∨ valF (c - 1) < L) := by
  by_cases e : q + u ≤ 2047
  · have v1 : valF c = (q + u) * 536870912 := by unfold valF; rw [if_neg (by omega), show (c / 1024).toNat - 1 = 29 by omega, show (2 : Int) ^ 29 = 536870912 from by decide]; omega
    by_cases e2 : q + u = 1024
    · have v2 : valF (c - 1) = 2047 * 268435456 := by unfold valF; rw [if_neg (by omega), show ((c - 1) / 1024).toNat - 1 = 28 by omega, show (2 : Int) ^ 28 = 268435456 from by decide]; omega
      rw [v1, v2]; omega
    · have v2 : valF (c - 1) = (q + u - 1) * 536870912 := by unfold valF; rw [if_neg (by omega), show ((c - 1) / 1024).toNat - 1 = 29 by omega, show (2 : Int) ^ 29 = 536870912 from by decide]; omega
      rw [v1, v2]; omega
  · have v1 : valF c = 1024 * 1073741824 := by unfold valF; rw [if_neg (by omega), show (c / 1024).toNat - 1 = 30 by omega, show (2 : Int) ^ 30 = 1073741824 from by decide]; omega
    have v2 : valF (c - 1) = 2047 * 536870912 := by unfold valF; rw [if_neg (by omega), show ((c - 1) / 1024).toNat - 1 = 29 by omega, show (2 : Int) ^ 29 = 536870912 from by decide]; omega
    rw [v1, v2]; omega
theorem vk_30 (L q r u c : Int) (h1 : L = 1073741824 * q + r) (h2 : 0 ≤ r ∧ r < 1073741824) (hu : (r = 0 ∧ u = 0) ∨ (0 < r ∧ u = 1)) (hq : 1024 ≤ q ∧ q ≤ 2047) (hc : c = 30720 + q + u) : c ≤ 54272 ∧ 0 ≤ c ∧ L ≤ valF c ∧ (c = 0 ∨ valF (c - 1) < L) := by
  by_cases e : q + u ≤ 2047
  · have v1 : valF c = (q + u) * 1073741824 := by unfold valF; rw [if_neg (by omega), show (c / 1024).toNat - 1 = 30 by omega, show (2 : Int) ^ 30 = 1073741824 from by decide]; omega
    by_cases e2 : q + u = 1024
    · have v2 : valF (c - 1) = 2047 * 536870912 := by unfold valF; rw [if_neg (by omega), show ((c - 1) / 1024).toNat - 1 = 29 by omega, show (2 : Int) ^ 29 = 536870912 from by decide]; omega
      rw [v1, v2]; omega
    · have v2 : valF (c - 1) = (q + u - 1) * 1073741824 := by unfold valF; rw [if_neg (by omega), show ((c - 1) / 1024).toNat - 1 = 30 by omega, show (2 : Int) ^ 30 = 1073741824 from by decide]; omega
      rw [v1, v2]; omega
  · have v1 : valF c = 1024 * 2147483648 := by unfold valF; rw [if_neg (by omega), show (c / 1024).toNat - 1 = 31 by omega, show (2 : Int) ^ 31 = 2147483648 from by decide]; omega
    have v2 : valF (c - 1) = 2047 * 1073741824 := by unfold valF; rw [if_neg (by omega), show ((c - 1) / 1024).toNat - 1 = 30 by omega, show (2 : Int) ^ 30 = 1073741824 from by decide]; omega
    rw [v1, v2]; omega
theorem vk_31 (L q r u c : Int) (h1 : L = 2147483648 * q + r) (h2 : 0 ≤ r ∧ r < 2147483648) (hu : (r = 0 ∧ u = 0) ∨ (0 < r ∧ u = 1)) (hq : 1024 ≤ q ∧ q ≤ 2047) (hc : c = 31744 + q + u) : c ≤ 54272 ∧ 0 ≤ c ∧ L ≤ valF c ∧ (c = 0 ∨ valF (c - 1) < L) := by
  by_cases e : q + u ≤ 2047
  · have v1 : valF c = (q + u) * 2147483648 := by unfold valF; rw [if_neg (by omega), show (c / 1024).toNat - 1 = 31 by omega, show (2 : Int) ^ 31 = 2147483648 from by decide]; omega
    by_cases e2 : q + u = 1024
    · have v2 : valF (c - 1) = 2047 * 1073741824 := by unfold valF; rw [if_neg (by omega), show ((c - 1) / 1024).toNat - 1 = 30 by omega, show (2 : Int) ^ 30 = 1073741824 from by decide]; omega
      rw [v1, v2]; omega
    · have v2 : valF (c - 1) = (q + u - 1) * 2147483648 := by unfold valF; rw [if_neg (by omega), show ((c - 1) / 1024).toNat - 1 = 31 by omega, show (2 : Int) ^ 31 = 2147483648 from by decide]; omega
      rw [v1, v2]; omega
  · have v1 : valF c = 1024 * 4294967296 := by unfold valF; rw [if_neg (by omega), show (c / 1024).toNat - 1 = 32 by omega, show (2 : Int) ^ 32 = 4294967296 from by decide]; omega
    have v2 : valF (c - 1) = 2047 * 2147483648 := by unfold valF; rw [if_neg (by omega), show ((c - 1) / 1024).toNat - 1 = 31 by omega, show (2 : Int) ^ 31 = 2147483648 from by decide]; omega
    rw [v1, v2]; omega
theorem vk_32 (L q r u c : Int) (h1 : L = 4294967296 * q + r) (h2 : 0 ≤ r ∧ r < 4294967296) (hu : (r = 0 ∧ u = 0) ∨ (0 < r ∧ u = 1)) (hq : 1024 ≤ q ∧ q ≤ 2047) (hc : c = 32768 + q + u) : c ≤ 54272 ∧ 0 ≤ c ∧ L ≤ valF c ∧ (c = 0 ∨ valF (c - 1) < L) := by
  by_cases e : q + u ≤ 2047
  · have v1 : valF c = (q + u) * 4294967296 := by unfold valF; rw [if_neg (by omega), show (c / 1024).toNat - 1 = 32 by omega, show (2 : Int) ^ 32 = 4294967296 from by decide]; omega
    by_cases e2 : q + u = 1024
    · have v2 : valF (c - 1) = 2047 * 2147483648 := by unfold valF; rw [if_neg (by omega), show ((c - 1) / 1024).toNat - 1 = 31 by omega, show (2 : Int) ^ 31 = 2147483648 from by decide]; omega
      rw [v1, v2]; omega
    · have v2 : valF (c - 1) = (q + u - 1) * 4294967296 := by unfold valF; rw [if_neg (by omega), show ((c - 1) / 1024).toNat - 1 = 32 by omega, show (2 : Int) ^ 32 = 4294967296 from by decide]; omega
      rw [v1, v2]; omega
  · have v1 : valF c = 1024 * 8589934592 := by unfold valF; rw [if_neg (by omega), show (c / 1024).toNat - 1 = 33 by omega, show (2 : Int) ^ 33 = 8589934592 from by decide]; omega
    have v2 : valF (c - 1) = 2047 * 4294967296 := by unfold valF; rw [if_neg (by omega), show ((c - 1) / 1024).toNat - 1 = 32 by omega, show (2 : Int) ^ 32 = 4294967296 from by decide]; omega
    rw [v1, v2]; omega
theorem vk_33 (L q r u c : Int) (h1 : L = 8589934592 * q + r) (h2 : 0 ≤ r ∧ r < 8589934592) (hu : (r = 0 ∧ u = 0) ∨ (0 < r ∧ u = 1)) (hq : 1024 ≤ q ∧ q ≤ 2047) (hc : c = 33792 + q + u) : c ≤ 54272 ∧ 0 ≤ c ∧ L ≤ valF c ∧ (c = 0 ∨ valF (c - 1) < L) := by
  by_cases e : q + u ≤ 2047
  · have v1 : valF c = (q + u) * 8589934592 := by unfold valF; rw [if_neg (by omega), show (c / 1024).toNat - 1 = 33 by omega, show (2 : Int) ^ 33 = 8589934592 from by decide]; omega
    by_cases e2 : q + u = 1024
    · have v2 : valF (c - 1) = 2047 * 4294967296 := by unfold valF; rw [if_neg (by omega), show ((c - 1) / 1024).toNat - 1 = 32 by omega, show (2 : Int) ^ 32 = 4294967296 from by decide]; omega
      rw [v1, v2]; omega
    · have v2 : valF (c - 1) = (q + u - 1) * 8589934592 := by unfold valF; rw [if_neg (by omega), show ((c - 1) / 1024).toNat - 1 = 33 by omega, show (2 : Int) ^ 33 = 8589934592 from by decide]; omega
      rw [v1, v2]; omega
  · have v1 : valF c = 1024 * 17179869184 := by unfold valF; rw [if_neg (by omega), show (c / 1024).toNat - 1 = 34 by omega, show (2 : Int) ^ 34 = 17179869184 from by decide]; omega
    have v2 : valF (c - 1) = 2047 * 8589934592 := by unfold valF; rw [if_neg (by omega), show ((c - 1) / 1024).toNat - 1 = 33 by omega, show (2 : Int) ^ 33 = 8589934592 from by decide]; omega
    rw [v1, v2]; omega
theorem vk_34 (L q r u c : Int) (h1 : L = 17179869184 * q + r) (h2 : 0 ≤ r ∧ r < 17179869184) (hu : (r = 0 ∧ u = 0) ∨ (0 < r ∧ u = 1)) (hq : 1024 ≤ q ∧ q ≤ 2047) (hc : c = 34816 + q + u) : c ≤ 54272 ∧ 0 ≤ c ∧ L ≤ valF c ∧ (c = 0 ∨ valF (c - 1) < L) := by
  by_cases e : q + u ≤ 2047
  · have v1 : valF c = (q + u) * 17179869184 := by unfold valF; rw [if_neg (by omega), show (c / 1024).toNat - 1 = 34 by omega, show (2 : Int) ^ 34 = 17179869184 from by decide]; omega
    by_cases e2 : q + u = 1024
    · have v2 : valF (c - 1) = 2047 * 8589934592 := by unfold valF; rw [if_neg (by omega), show ((c - 1) / 1024).toNat - 1 = 33 by omega, show (2 : Int) ^ 33 = 8589934592 from by decide]; omega
      rw [v1, v2]; omega
    · have v2 : valF (c - 1) = (q + u - 1) * 17179869184 := by unfold valF; rw [if_neg (by omega), show ((c - 1) / 1024).toNat - 1 = 34 by omega, show (2 : Int) ^ 34 = 17179869184 from by decide]; omega
      rw [v1, v2]; omega
  · have v1 : valF c = 1024 * 34359738368 := by unfold valF; rw [if_neg (by omega), show (c / 1024).toNat - 1 = 35 by omega, show (2 : Int) ^ 35 = 34359738368 from by decide]; omega
    have v2 : valF (c - 1) = 2047 * 17179869184 := by unfold valF; rw [if_neg (by omega), show ((c - 1) / 1024).toNat - 1 = 34 by omega, show (2 : Int) ^ 34 = 17179869184 from by decide]; omega
    rw [v1, v2]; omega
theorem vk_35 (L q r u c : Int) (h1 : L = 34359738368 * q + r) (h2 : 0 ≤ r ∧ r < 34359738368) (hu : (r = 0 ∧ u = 0) ∨ (0 < r ∧ u = 1)) (hq : 1024 ≤ q ∧ q ≤ 2047) (hc : c = 35840 + q + u) : c ≤ 54272 ∧ 0 ≤ c ∧ L ≤ valF c ∧ (c = 0 ∨ valF (c - 1) < L) := by
  by_cases e : q + u ≤ 2047
  · have v1 : valF c = (q + u) * 34359738368 := by unfold valF; rw [if_neg (by omega), show (c / 1024).toNat - 1 = 35 by omega, show (2 : Int) ^ 35 = 34359738368 from by decide]; omega
    by_cases e2 : q + u = 1024
    · have v2 : valF (c - 1) = 2047 * 17179869184 := by unfold valF; rw [if_neg (by omega), show ((c - 1) / 1024).toNat - 1 = 34 by omega, show (2 : Int) ^ 34 = 17179869184 from by decide]; omega
      rw [v1, v2]; omega
    · have v2 : valF (c - 1) = (q + u - 1) * 34359738368 := by unfold valF; rw [if_neg (by omega), show ((c - 1) / 1024).toNat - 1 = 35 by omega, show (2 : Int) ^ 35 = 34359738368 from by decide]; omega
      rw [v1, v2]; omega
  · have v1 : valF c = 1024 * 68719476736 := by unfold valF; rw [if_neg (by omega), show (c / 1024).toNat - 1 = 36 by omega, show (2 : Int) ^ 36 = 68719476736 from by decide]; omega
    have v2 : valF (c - 1) = 2047 * 34359738368 := by unfold valF; rw [if_neg (by omega), show ((c - 1) / 1024).toNat - 1 = 35 by omega, show (2 : Int) ^ 35 = 34359738368 from by decide]; omega
    rw [v1, v2]; omega
theorem vk_36 (L q r u c : Int) (h1 : L = 68719476736 * q + r) (h2 : 0 ≤ r ∧ r < 68719476736) (hu : (r = 0 ∧ u = 0) ∨ (0 < r ∧ u = 1)) (hq : 1024 ≤ q ∧ q ≤ 2047) (hc : c = 36864 + q + u) : c ≤ 54272 ∧ 0 ≤ c ∧ L ≤ valF c ∧ (c = 0 ∨ valF (c - 1) < L) := by
  by_cases e : q + u ≤ 2047
  · have v1 : valF c = (q + u) * 68719476736 := by unfold valF; rw [if_neg (by omega), show (c / 1024).toNat - 1 = 36 by omega, show (2 : Int) ^ 36 = 68719476736 from by decide]; omega
    by_cases e2 : q + u = 1024
    · have v2 : valF (c - 1) = 2047 * 34359738368 := by unfold valF; rw [if_neg (by omega), show ((c - 1) / 1024).toNat - 1 = 35 by omega, show (2 : Int) ^ 35 = 34359738368 from by decide]; omega
      rw [v1, v2]; omega
    · have v2 : valF (c - 1) = (q + u - 1) * 68719476736 := by unfold valF; rw [if_neg (by omega), show ((c - 1) / 1024).toNat - 1 = 36 by omega, show (2 : Int) ^ 36 = 68719476736 from by decide]; omega
      rw [v1, v2]; omega
  · have v1 : valF c = 1024 * 137438953472 := by unfold valF; rw [if_neg (by omega), show (c / 1024).toNat - 1 = 37 by omega, show (2 : Int) ^ 37 = 137438953472 from by decide]; omega
    have v2 : valF (c - 1) = 2047 * 68719476736 := by unfold valF; rw [if_neg (by omega), show ((c - 1) / 1024).toNat - 1 = 36 by omega, show (2 : Int) ^ 36 = 68719476736 from by decide]; omega
    rw [v1, v2]; omega
theorem vk_37 (L q r u c : Int) (h1 : L = 137438953472 * q + r) (h2 : 0 ≤ r ∧ r < 137438953472) (hu : (r = 0 ∧ u = 0) ∨ (0 < r ∧ u = 1)) (hq : 1024 ≤ q ∧ q ≤ 2047) (hc : c = 37888 + q + u) : c ≤ 54272 ∧ 0 ≤ c ∧ L ≤ valF c ∧ (c = 0 ∨ valF (c - 1) < L) := by
  by_cases e : q + u ≤ 2047
  · have v1 : valF c = (q + u) * 137438953472 := by unfold valF; rw [if_neg (by omega), show (c / 1024).toNat - 1 = 37 by omega, show (2 : Int) ^ 37 = 137438953472 from by decide]; omega
    by_cases e2 : q + u = 1024
    · have v2 : valF (c - 1) = 2047 * 68719476736 := by unfold valF; rw [if_neg (by omega), show ((c - 1) / 1024).toNat - 1 = 36 by omega, show (2 : Int) ^ 36 = 68719476736 from by decide]; omega
      rw [v1, v2]; omega
    · have v2 : valF (c - 1) = (q + u - 1) * 137438953472 := by unfold valF; rw [if_neg (by omega), show ((c - 1) / 1024).toNat - 1 = 37 by omega, show (2 : Int) ^ 37 = 137438953472 from by decide]; omega
      rw [v1, v2]; omega
  · have v1 : valF c = 1024 * 274877906944 := by unfold valF; rw [if_neg (by omega), show (c / 1024).toNat - 1 = 38 by omega, show (2 : Int) ^ 38 = 274877906944 from by decide]; omega
    have v2 : valF (c - 1) = 2047 * 137438953472 := by unfold valF; rw [if_neg (by omega), show ((c - 1) / 1024).toNat - 1 = 37 by omega, show (2 : Int) ^ 37 = 137438953472 from by decide]; omega
    rw [v1, v2]; omega
theorem vk_38 (L q r u c : Int) (h1 : L = 274877906944 * q + r) (h2 : 0 ≤ r ∧ r < 274877906944) (hu : (r = 0 ∧ u = 0) ∨ (0 < r ∧ u = 1)) (hq : 1024 ≤ q ∧ q ≤ 2047) (hc : c = 38912 + q + u) : c ≤ 54272 ∧ 0 ≤ c ∧ L ≤ valF c ∧ (c = 0 ∨ valF (c - 1) < L) := by
  by_cases e : q + u ≤ 2047
  · have v1 : valF c = (q + u) * 274877906944 := by unfold valF; rw [if_neg (by omega), show (c / 1024).toNat - 1 = 38 by omega, show (2 : Int) ^ 38 = 274877906944 from by decide]; omega
    by_cases e2 : q + u = 1024
    · have v2 : valF (c - 1) = 2047 * 137438953472 := by unfold valF; rw [if_neg (by omega), show ((c - 1) / 1024).toNat - 1 = 37 by omega, show (2 : Int) ^ 37 = 137438953472 from by decide]; omega
      rw [v1, v2]; omega
    · have v2 : valF (c - 1) = (q + u - 1) * 274877906944 := by unfold valF; rw [if_neg (by omega), show ((c - 1) / 1024).toNat - 1 = 38 by omega, show (2 : Int) ^ 38 = 274877906944 from by decide]; omega
      rw [v1, v2]; omega
  · have v1 : valF c = 1024 * 549755813888 := by unfold valF; rw [if_neg (by omega), show (c / 1024).toNat - 1 = 39 by omega, show (2 : Int) ^ 39 = 549755813888 from by decide]; omega
    have v2 : valF (c - 1) = 2047 * 274877906944 := by unfold valF; rw [if_neg (by omega), show ((c - 1) / 1024).toNat - 1 = 38 by omega, show (2 : Int) ^ 38 = 274877906944 from by decide]; omega
    rw [v1, v2]; omega
theorem vk_39 (L q r u c : Int) (h1 : L = 549755813888 * q + r) (h2 : 0 ≤ r ∧ r < 549755813888) (hu : (r = 0 ∧ u = 0) ∨ (0 < r ∧ u = 1)) (hq : 1024 ≤ q ∧ q ≤ 2047) (hc : c = 39936 + q + u) : c ≤ 54272 ∧ 0 ≤ c ∧ L ≤ valF c ∧ (c = 0 ∨ valF (c - 1) < L) := by
  by_cases e : q + u ≤ 2047
  · have v1 : valF c = (q + u) * 549755813888 := by unfold valF; rw [if_neg (by omega), show (c / 1024).toNat - 1 = 39 by omega, show (2 : Int) ^ 39 = 549755813888 from by decide]; omega
    by_cases e2 : q + u = 1024
    · have v2 : valF (c - 1) = 2047 * 274877906944 := by unfold valF; rw [if_neg (by omega), show ((c - 1) / 1024).toNat - 1 = 38 by omega, show (2 : Int) ^ 38 = 274877906944 from by decide]; omega
      rw [v1, v2]; omega
    · have v2 : valF (c - 1) = (q + u - 1) * 549755813888 := by unfold valF; rw [if_neg (by omega), show ((c - 1) / 1024).toNat - 1 = 39 by omega, show (2 : Int) ^ 39 = 549755813888 from by decide]; omega
      rw [v1, v2]; omega
  · have v1 : valF c = 1024 * 1099511627776 := by unfold valF; rw [if_neg (by omega), show (c / 1024).toNat - 1 = 40 by omega, show (2 : Int) ^ 40 = 1099511627776 from by decide]; omega
    have v2 : valF (c - 1) = 2047 * 549755813888 := by unfold valF; rw [if_neg (by omega), show ((c - 1) / 1024).toNat - 1 = 39 by omega, show (2 : Int) ^ 39 = 549755813888 from by decide]; omega
    rw [v1, v2]; omega
theorem vk_40 (L q r u c : Int) (h1 : L = 1099511627776 * q + r) (h2 : 0 ≤ r ∧ r < 1099511627776) (hu : (r = 0 ∧ u = 0) ∨ (0 < r ∧ u = 1)) (hq : 1024 ≤ q ∧ q ≤ 2047) (hc : c = 40960 + q + u) : c ≤ 54272 ∧ 0 ≤ c ∧ L ≤ valF c ∧ (c = 0 ∨ valF (c - 1) < L) := by
  by_cases e : q + u ≤ 2047
  · have v1 : valF c = (q + u) * 1099511627776 := by unfold valF; rw [if_neg (by omega), show (c / 1024).toNat - 1 = 40 by omega, show (2 : Int) ^ 40 = 1099511627776 from by decide]; omega
    by_cases e2 : q + u = 1024
    · have v2 : valF (c - 1) = 2047 * 549755813888 := by unfold valF; rw [if_neg (by omega), show ((c - 1) / 1024).toNat - 1 = 39 by omega, show (2 : Int) ^ 39 = 549755813888 from by decide]; omega
      rw [v1, v2]; omega
    · have v2 : valF (c - 1) = (q + u - 1) * 1099511627776 := by unfold valF; rw [if_neg (by omega), show ((c - 1) / 1024).toNat - 1 = 40 by omega, show (2 : Int) ^ 40 = 1099511627776 from by decide]; omega
      rw [v1, v2]; omega
  · have v1 : valF c = 1024 * 2199023255552 := by unfold valF; rw [if_neg (by omega), show (c / 1024).toNat - 1 = 41 by omega, show (2 : Int) ^ 41 = 2199023255552 from by decide]; omega
    have v2 : valF (c - 1) = 2047 * 1099511627776 := by unfold valF; rw [if_neg (by omega), show ((c - 1) / 1024).toNat - 1 = 40 by omega, show (2 : Int) ^ 40 = 1099511627776 from by decide]; omega
    rw [v1, v2]; omega
theorem vk_41 (L q r u c : Int) (h1 : L = 2199023255552 * q + r) (h2 : 0 ≤ r ∧ r < 2199023255552) (hu : (r = 0 ∧ u = 0) ∨ (0 < r ∧ u = 1)) (hq : 1024 ≤ q ∧ q ≤ 2047) (hc : c = 41984 + q + u) : c ≤ 54272 ∧ 0 ≤ c ∧ L ≤ valF c ∧ (c = 0 ∨ valF (c - 1) < L) := by
  by_cases e : q + u ≤ 2047
  · have v1 : valF c = (q + u) * 2199023255552 := by unfold valF; rw [if_neg (by omega), show (c / 1024).toNat - 1 = 41 by omega, show (2 : Int) ^ 41 = 2199023255552 from by decide]; omega
    by_cases e2 : q + u = 1024
    · have v2 : valF (c - 1) = 2047 * 1099511627776 := by unfold valF; rw [if_neg (by omega), show ((c - 1) / 1024).toNat - 1 = 40 by omega, show (2 : Int) ^ 40 = 1099511627776 from by decide]; omega
      rw [v1, v2]; omega
    · have v2 : valF (c - 1) = (q + u - 1) * 2199023255552 := by unfold valF; rw [if_neg (by omega), show ((c - 1) / 1024).toNat - 1 = 41 by omega, show (2 : Int) ^ 41 = 2199023255552 from by decide]; omega
      rw [v1, v2]; omega
  · have v1 : valF c = 1024 * 4398046511104 := by unfold valF; rw [if_neg (by omega), show (c / 1024).toNat - 1 = 42 by omega, show (2 : Int) ^ 42 = 4398046511104 from by decide]; omega
    have v2 : valF (c - 1) = 2047 * 2199023255552 := by unfold valF; rw [if_neg (by omega), show ((c - 1) / 1024).toNat - 1 = 41 by omega, show (2 : Int) ^ 41 = 2199023255552 from by decide]; omega
    rw [v1, v2]; omega
theorem vk_42 (L q r u c : Int) (h1 : L = 4398046511104 * q + r) (h2 : 0 ≤ r ∧ r < 4398046511104) (hu : (r = 0 ∧ u = 0) ∨ (0 < r ∧ u = 1)) (hq : 1024 ≤ q ∧ q ≤ 2047) (hc : c = 43008 + q + u) : c ≤ 54272 ∧ 0 ≤ c ∧ L ≤ valF c ∧ (c = 0 ∨ valF (c - 1) < L) := by
  by_cases e : q + u ≤ 2047
  · have v1 : valF c = (q + u) * 4398046511104 := by unfold valF; rw [if_neg (by omega), show (c / 1024).toNat - 1 = 42 by omega, show (2 : Int) ^ 42 = 4398046511104 from by decide]; omega
    by_cases e2 : q + u = 1024
    · have v2 : valF (c - 1) = 2047 * 2199023255552 := by unfold valF; rw [if_neg (by omega), show ((c - 1) / 1024).toNat - 1 = 41 by omega, show (2 : Int) ^ 41 = 2199023255552 from by decide]; omega
      rw [v1, v2]; omega
    · have v2 : valF (c - 1) = (q + u - 1) * 4398046511104 := by unfold valF; rw [if_neg (by omega), show ((c - 1) / 1024).toNat - 1 = 42 by omega, show (2 : Int) ^ 42 = 4398046511104 from by decide]; omega
      rw [v1, v2]; omega
  · have v1 : valF c = 1024 * 8796093022208 := by unfold valF; rw [if_neg (by omega), show (c / 1024).toNat - 1 = 43 by omega, show (2 : Int) ^ 43 = 8796093022208 from by decide]; omega
    have v2 : valF (c - 1) = 2047 * 4398046511104 := by unfold valF; rw [if_neg (by omega), show ((c - 1) / 1024).toNat - 1 = 42 by omega, show (2 : Int) ^ 42 = 4398046511104 from by decide]; omega
    rw [v1, v2]; omega
theorem vk_43 (L q r u c : Int) (h1 : L = 8796093022208 * q + r) (h2 : 0 ≤ r ∧ r < 8796093022208) (hu : (r = 0 ∧ u = 0) ∨ (0 < r ∧ u = 1)) (hq : 1024 ≤ q ∧ q ≤ 2047) (hc : c = 44032 + q + u) : c ≤ 54272 ∧ 0 ≤ c ∧ L ≤ valF c ∧ (c = 0 ∨ valF (c - 1) < L) := by
  by_cases e : q + u ≤ 2047
  · have v1 : valF c = (q + u) * 8796093022208 := by unfold valF; rw [if_neg (by omega), show (c / 1024).toNat - 1 = 43 by omega, show (2 : Int) ^ 43 = 8796093022208 from by decide]; omega
    by_cases e2 : q + u = 1024
    · have v2 : valF (c - 1) = 2047 * 4398046511104 := by unfold valF; rw [if_neg (by omega), show ((c - 1) / 1024).toNat - 1 = 42 by omega, show (2 : Int) ^ 42 = 4398046511104 from by decide]; omega
      rw [v1, v2]; omega
    · have v2 : valF (c - 1) = (q + u - 1) * 8796093022208 := by unfold valF; rw [if_neg (by omega), show ((c - 1) / 1024).toNat - 1 = 43 by omega, show (2 : Int) ^ 43 = 8796093022208 from by decide]; omega
      rw [v1, v2]; omega
  · have v1 : valF c = 1024 * 17592186044416 := by unfold valF; rw [if_neg (by omega), show (c / 1024).toNat - 1 = 44 by omega, show (2 : Int) ^ 44 = 17592186044416 from by decide]; omega
    have v2 : valF (c - 1) = 2047 * 8796093022208 := by unfold valF; rw [if_neg (by omega), show ((c - 1) / 1024).toNat - 1 = 43 by omega, show (2 : Int) ^ 43 = 8796093022208 from by decide]; omega
    rw [v1, v2]; omega
theorem vk_44 (L q r u c : Int) (h1 : L = 17592186044416 * q + r) (h2 : 0 ≤ r ∧ r < 17592186044416) (hu : (r = 0 ∧ u = 0) ∨ (0 < r ∧ u = 1)) (hq : 1024 ≤ q ∧ q ≤ 2047) (hc : c = 45056 + q + u) : c ≤ 54272 ∧ 0 ≤ c ∧ L ≤ valF c ∧ (c = 0 ∨ valF (c - 1) < L) := by
  by_cases e : q + u ≤ 2047
  · have v1 : valF c = (q + u) * 17592186044416 := by unfold valF; rw [if_neg (by omega), show (c / 1024).toNat - 1 = 44 by omega, show (2 : Int) ^ 44 = 17592186044416 from by decide]; omega
    by_cases e2 : q + u = 1024
    · have v2 : valF (c - 1) = 2047 * 8796093022208 := by unfold valF; rw [if_neg (by omega), show ((c - 1) / 1024).toNat - 1 = 43 by omega, show (2 : Int) ^ 43 = 8796093022208 from by decide]; omega
      rw [v1, v2]; omega
    · have v2 : valF (c - 1) = (q + u - 1) * 17592186044416 := by unfold valF; rw [if_neg (by omega), show ((c - 1) / 1024).toNat - 1 = 44 by omega, show (2 : Int) ^ 44 = 17592186044416 from by decide]; omega
      rw [v1, v2]; omega
  · have v1 : valF c = 1024 * 35184372088832 := by unfold valF; rw [if_neg (by omega), show (c / 1024).toNat - 1 = 45 by omega, show (2 : Int) ^ 45 = 35184372088832 from by decide]; omega
    have v2 : valF (c - 1) = 2047 * 17592186044416 := by unfold valF; rw [if_neg (by omega), show ((c - 1) / 1024).toNat - 1 = 44 by omega, show (2 : Int) ^ 44 = 17592186044416 from by decide]; omega
    rw [v1, v2]; omega
theorem vk_45 (L q r u c : Int) (h1 : L = 35184372088832 * q + r) (h2 : 0 ≤ r ∧ r < 35184372088832) (hu : (r = 0 ∧ u = 0) ∨ (0 < r ∧ u = 1)) (hq : 1024 ≤ q ∧ q ≤ 2047) (hc : c = 46080 + q + u) : c ≤ 54272 ∧ 0 ≤ c ∧ L ≤ valF c ∧ (c = 0 ∨ valF (c - 1) < L) := by
  by_cases e : q + u ≤ 2047
  · have v1 : valF c = (q + u) * 35184372088832 := by unfold valF; rw [if_neg (by omega), show (c / 1024).toNat - 1 = 45 by omega, show (2 : Int) ^ 45 = 35184372088832 from by decide]; omega
    by_cases e2 : q + u = 1024
    · have v2 : valF (c - 1) = 2047 * 17592186044416 := by unfold valF; rw [if_neg (by omega), show ((c - 1) / 1024).toNat - 1 = 44 by omega, show (2 : Int) ^ 44 = 17592186044416 from by decide]; omega
      rw [v1, v2]; omega
    · have v2 : valF (c - 1) = (q + u - 1) * 35184372088832 := by unfold valF; rw [if_neg (by omega), show ((c - 1) / 1024).toNat - 1 = 45 by omega, show (2 : Int) ^ 45 = 35184372088832 from by decide]; omega
      rw [v1, v2]; omega
  · have v1 : valF c = 1024 * 70368744177664 := by unfold valF; rw [if_neg (by omega), show (c / 1024).toNat - 1 = 46 by omega, show (2 : Int) ^ 46 = 70368744177664 from by decide]; omega
    have v2 : valF (c - 1) = 2047 * 35184372088832 := by unfold valF; rw [if_neg (by omega), show ((c - 1) / 1024).toNat - 1 = 45 by omega, show (2 : Int) ^ 45 = 35184372088832 from by decide]; omega
    rw [v1, v2]; omega
theorem vk_46 (L q r u c : Int) (h1 : L = 70368744177664 * q + r) (h2 : 0 ≤ r ∧ r < 70368744177664) (hu : (r = 0 ∧ u = 0) ∨ (0 < r ∧ u = 1)) (hq : 1024 ≤ q ∧ q ≤ 2047) (hc : c = 47104 + q + u) : c ≤ 54272 ∧ 0 ≤ c ∧ L ≤ valF c ∧ (c = 0 ∨ valF (c - 1) < L) := by
  by_cases e : q + u ≤ 2047
  · have v1 : valF c = (q + u) * 70368744177664 := by unfold valF; rw [if_neg (by omega), show (c / 1024).toNat - 1 = 46 by omega, show (2 : Int) ^ 46 = 70368744177664 from by decide]; omega
    by_cases e2 : q + u = 1024
    · have v2 : valF (c - 1) = 2047 * 35184372088832 := by unfold valF; rw [if_neg (by omega), show ((c - 1) / 1024).toNat - 1 = 45 by omega, show (2 : Int) ^ 45 = 35184372088832 from by decide]; omega
      rw [v1, v2]; omega
    · have v2 : valF (c - 1) = (q + u - 1) * 70368744177664 := by unfold valF; rw [if_neg (by omega), show ((c - 1) / 1024).toNat - 1 = 46 by omega, show (2 : Int) ^ 46 = 70368744177664 from by decide]; omega
      rw [v1, v2]; omega
  · have v1 : valF c = 1024 * 140737488355328 := by unfold valF; rw [if_neg (by omega), show (c / 1024).toNat - 1 = 47 by omega, show (2 : Int) ^ 47 = 140737488355328 from by decide]; omega
    have v2 : valF (c - 1) = 2047 * 70368744177664 := by unfold valF; rw [if_neg (by omega), show ((c - 1) / 1024).toNat - 1 = 46 by omega, show (2 : Int) ^ 46 = 70368744177664 from by decide]; omega
    rw [v1, v2]; omega
theorem vk_47 (L q r u c : Int) (h1 : L = 140737488355328 * q + r) (h2 : 0 ≤ r ∧ r < 140737488355328) (hu : (r = 0 ∧ u = 0) ∨ (0 < r ∧ u = 1)) (hq : 1024 ≤ q ∧ q ≤ 2047) (hc : c = 48128 + q + u) : c ≤ 54272 ∧ 0 ≤ c ∧ L ≤ valF c ∧ (c = 0 ∨ valF (c - 1) < L) := by
  by_cases e : q + u ≤ 2047
  · have v1 : valF c = (q + u) * 140737488355328 := by unfold valF; rw [if_neg (by omega), show (c / 1024).toNat - 1 = 47 by omega, show (2 : Int) ^ 47 = 140737488355328 from by decide]; omega
    by_cases e2 : q + u = 1024
    · have v2 : valF (c - 1) = 2047 * 70368744177664 := by unfold valF; rw [if_neg (by omega), show ((c - 1) / 1024).toNat - 1 = 46 by omega, show (2 : Int) ^ 46 = 70368744177664 from by decide]; omega
      rw [v1, v2]; omega
    · have v2 : valF (c - 1) = (q + u - 1) * 140737488355328 := by unfold valF; rw [if_neg (by omega), show ((c - 1) / 1024).toNat - 1 = 47 by omega, show (2 : Int) ^ 47 = 140737488355328 from by decide]; omega
      rw [v1, v2]; omega
  · have v1 : valF c = 1024 * 281474976710656 := by unfold valF; rw [if_neg (by omega), show (c / 1024).toNat - 1 = 48 by omega, show (2 : Int) ^ 48 = 281474976710656 from by decide]; omega
    have v2 : valF (c - 1) = 2047 * 140737488355328 := by unfold valF; rw [if_neg (by omega), show ((c - 1) / 1024).toNat - 1 = 47 by omega, show (2 : Int) ^ 47 = 140737488355328 from by decide]; omega
    rw [v1, v2]; omega
theorem vk_48 (L q r u c : Int) (h1 : L = 281474976710656 * q + r) (h2 : 0 ≤ r ∧ r < 281474976710656) (hu : (r = 0 ∧ u = 0) ∨ (0 < r ∧ u = 1)) (hq : 1024 ≤ q ∧ q ≤ 2047) (hc : c = 49152 + q + u) : c ≤ 54272 ∧ 0 ≤ c ∧ L ≤ valF c ∧ (c = 0 ∨ valF (c - 1) < L) := by
  by_cases e : q + u ≤ 2047
  · have v1 : valF c = (q + u) * 281474976710656 := by unfold valF; rw [if_neg (by omega), show (c / 1024).toNat - 1 = 48 by omega, show (2 : Int) ^ 48 = 281474976710656 from by decide]; omega
    by_cases e2 : q + u = 1024
    · have v2 : valF (c - 1) = 2047 * 140737488355328 := by unfold valF; rw [if_neg (by omega), show ((c - 1) / 1024).toNat - 1 = 47 by omega, show (2 : Int) ^ 47 = 140737488355328 from by decide]; omega
      rw [v1, v2]; omega
    · have v2 : valF (c - 1) = (q + u - 1) * 281474976710656 := by unfold valF; rw [if_neg (by omega), show ((c - 1) / 1024).toNat - 1 = 48 by omega, show (2 : Int) ^ 48 = 281474976710656 from by decide]; omega
      rw [v1, v2]; omega
  · have v1 : valF c = 1024 * 562949953421312 := by unfold valF; rw [if_neg (by omega), show (c / 1024).toNat - 1 = 49 by omega, show (2 : Int) ^ 49 = 562949953421312 from by decide]; omega
    have v2 : valF (c - 1) = 2047 * 281474976710656 := by unfold valF; rw [if_neg (by omega), show ((c - 1) / 1024).toNat - 1 = 48 by omega, show (2 : Int) ^ 48 = 281474976710656 from by decide]; omega
    rw [v1, v2]; omega
theorem vk_49 (L q r u c : Int) (h1 : L = 562949953421312 * q + r) (h2 : 0 ≤ r ∧ r < 562949953421312) (hu : (r = 0 ∧ u = 0) ∨ (0 < r ∧ u = 1)) (hq : 1024 ≤ q ∧ q ≤ 2047) (hc : c = 50176 + q + u) : c ≤ 54272 ∧ 0 ≤ c ∧ L ≤ valF c ∧ (c = 0 ∨ valF (c - 1) < L) := by
  by_cases e : q + u ≤ 2047
  · have v1 : valF c = (q + u) * 562949953421312 := by unfold valF; rw [if_neg (by omega), show (c / 1024).toNat - 1 = 49 by omega, show (2 : Int) ^ 49 = 562949953421312 from by decide]; omega
    by_cases e2 : q + u = 1024
    · have v2 : valF (c - 1) = 2047 * 281474976710656 := by unfold valF; rw [if_neg (by omega), show ((c - 1) / 1024).toNat - 1 = 48 by omega, show (2 : Int) ^ 48 = 281474976710656 from by decide]; omega
      rw [v1, v2]; omega
    · have v2 : valF (c - 1) = (q + u - 1) * 562949953421312 := by unfold valF; rw [if_neg (by omega), show ((c - 1) / 1024).toNat - 1 = 49 by omega, show (2 : Int) ^ 49 = 562949953421312 from by decide]; omega
      rw [v1, v2]; omega
  · have v1 : valF c = 1024 * 1125899906842624 := by unfold valF; rw [if_neg (by omega), show (c / 1024).toNat - 1 = 50 by omega, show (2 : Int) ^ 50 = 1125899906842624 from by decide]; omega
    have v2 : valF (c - 1) = 2047 * 562949953421312 := by unfold valF; rw [if_neg (by omega), show ((c - 1) / 1024).toNat - 1 = 49 by omega, show (2 : Int) ^ 49 = 562949953421312 from by decide]; omega
    rw [v1, v2]; omega
theorem vk_50 (L q r u c : Int) (h1 : L = 1125899906842624 * q + r) (h2 : 0 ≤ r ∧ r < 1125899906842624) (hu : (r = 0 ∧ u = 0) ∨ (0 < r ∧ u = 1)) (hq : 1024 ≤ q ∧ q ≤ 2047) (hc : c = 51200 + q + u) : c ≤ 54272 ∧ 0 ≤ c ∧ L ≤ valF c ∧ (c = 0 ∨ valF (c - 1) < L) := by
  by_cases e : q + u ≤ 2047
  · have v1 : valF c = (q + u) * 1125899906842624 := by unfold valF; rw [if_neg (by omega), show (c / 1024).toNat - 1 = 50 by omega, show (2 : Int) ^ 50 = 1125899906842624 from by decide]; omega
    by_cases e2 : q + u = 1024
    · have v2 : valF (c - 1) = 2047 * 562949953421312 := by unfold valF; rw [if_neg (by omega), show ((c - 1) / 1024).toNat - 1 = 49 by omega, show (2 : Int) ^ 49 = 562949953421312 from by decide]; omega
      rw [v1, v2]; omega
    · have v2 : valF (c - 1) = (q + u - 1) * 1125899906842624 := by unfold valF; rw [if_neg (by omega), show ((c - 1) / 1024).toNat - 1 = 50 by omega, show (2 : Int) ^ 50 = 1125899906842624 from by decide]; omega
      rw [v1, v2]; omega
  · have v1 : valF c = 1024 * 2251799813685248 := by unfold valF; rw [if_neg (by omega), show (c / 1024).toNat - 1 = 51 by omega, show (2 : Int) ^ 51 = 2251799813685248 from by decide]; omega
    have v2 : valF (c - 1) = 2047 * 1125899906842624 := by unfold valF; rw [if_neg (by omega), show ((c - 1) / 1024).toNat - 1 = 50 by omega, show (2 : Int) ^ 50 = 1125899906842624 from by decide]; omega
    rw [v1, v2]; omega
theorem vk_51 (L q r u c : Int) (h1 : L = 2251799813685248 * q + r) (h2 : 0 ≤ r ∧ r < 2251799813685248) (hu : (r = 0 ∧ u = 0) ∨ (0 < r ∧ u = 1)) (hq : 1024 ≤ q ∧ q ≤ 2047) (hc : c = 52224 + q + u) : c ≤ 54272 ∧ 0 ≤ c ∧ L ≤ valF c ∧ (c = 0 ∨ valF (c - 1) < L) := by
  by_cases e : q + u ≤ 2047
  · have v1 : valF c = (q + u) * 2251799813685248 := by unfold valF; rw [if_neg (by omega), show (c / 1024).toNat - 1 = 51 by omega, show (2 : Int) ^ 51 = 2251799813685248 from by decide]; omega
    by_cases e2 : q + u = 1024
    · have v2 : valF (c - 1) = 2047 * 1125899906842624 := by unfold valF; rw [if_neg (by omega), show ((c - 1) / 1024).toNat - 1 = 50 by omega, show (2 : Int) ^ 50 = 1125899906842624 from by decide]; omega
      rw [v1, v2]; omega
    · have v2 : valF (c - 1) = (q + u - 1) * 2251799813685248 := by unfold valF; rw [if_neg (by omega), show ((c - 1) / 1024).toNat - 1 = 51 by omega, show (2 : Int) ^ 51 = 2251799813685248 from by decide]; omega
      rw [v1, v2]; omega
  · have v1 : valF c = 1024 * 4503599627370496 := by unfold valF; rw [if_neg (by omega), show (c / 1024).toNat - 1 = 52 by omega, show (2 : Int) ^ 52 = 4503599627370496 from by decide]; omega
    have v2 : valF (c - 1) = 2047 * 2251799813685248 := by unfold valF; rw [if_neg (by omega), show ((c - 1) / 1024).toNat - 1 = 51 by omega, show (2 : Int) ^ 51 = 2251799813685248 from by decide]; omega
    rw [v1, v2]; omega
theorem ushrL0 (x : Int64) : ushrL x (0 : Int32) = x := by
  show ((x.toUInt64 >>> ((0 : Int32) &&& 0x3f).toInt64.toUInt64).toInt64) = x
  rw [show ((0 : Int32) &&& 0x3f).toInt64.toUInt64 = 0 from by decide]
  simp
theorem mask0 (x : Int64) : x &&& (0 : Int64) = 0 := by simp
theorem run_27_0 {l : Launch} {Z : State} {a0 : Array Value} (hw : HW Z a0) {n0 : Nat} {h : Heap} (x : Int64) (hx0 : 0 ≤ x.toInt) (h1 : 0 ≤ x.toInt) (h2 : x.toInt < 2048) : WP l B1 Z n0 (fun v h' => h = h' ∧ ∃ r : Int32, v = some (.int r) ∧ ((4611686018427387904 ≤ x.toInt ∧ r.toInt = 65535) ∨ (x.toInt < 4611686018427387904 ∧ r.toInt ≤ 54272 ∧ 0 ≤ r.toInt ∧ x.toInt ≤ valF r.toInt ∧ (r.toInt = 0 ∨ valF (r.toInt - 1) < x.toInt)))) h 0 0 27 #[.val (.long x), .second, .val (.int (0 : Int32)), .unset, .unset] [] := by
  have k32_0 : (0 : Int32).toInt = 0 := by decide
  have k32_10 : (10 : Int32).toInt = 10 := by decide
  have k32_63 : (63 : Int32).toInt = 63 := by decide
  have k64_0 : (0 : Int64).toInt = 0 := by decide
  have k64_1 : (1 : Int64).toInt = 1 := by decide
  refine WP.lloadN d1_27 rfl (pc' := 28) rfl ?_
  refine WP.lconst1 d1_28 (pc' := 29) rfl ?_
  refine WP.iloadN d1_29 rfl (pc' := 30) rfl ?_
  refine WP.lshl d1_30 (pc' := 31) rfl ?_
  rw [show ((1 : Int64) <<< ((0 : Int32) &&& 63).toInt64) = (1 : Int64) from by decide]
  refine WP.lconst1 d1_31 (pc' := 32) rfl ?_
  refine WP.lsub d1_32 (pc' := 33) rfl ?_
  rw [show (((1 : Int64) - (1 : Int64)) : Int64) = (0 : Int64) from by decide]
  refine WP.land d1_33 (pc' := 34) rfl ?_
  refine WP.lneg d1_34 (pc' := 35) rfl ?_
  refine WP.bipush d1_35 (z := (63 : Int32)) rfl (pc' := 37) rfl ?_
  refine WP.lushr d1_37 (pc' := 38) rfl ?_
  obtain ⟨u, e_u⟩ : ∃ z, z = (ushrL (-(x &&& (0 : Int64))) (63 : Int32)) := ⟨_, rfl⟩
  rw [← e_u]
  refine WP.lstoreN d1_38 (pc' := 39) rfl (ls' := #[.val (.long x), .second, .val (.int (0 : Int32)), .val (.long u), .second]) rfl ?_
  have f1 : (x &&& (0 : Int64)).toInt = x.toInt % 1 := by rw [mask0]; omega
  have f2 : (-(x &&& (0 : Int64))).toInt = -(x.toInt % 1) := by have g1 := c_lneg (x &&& (0 : Int64)); have g2 := own_r64 (-(x &&& (0 : Int64))); omega
  have f3 : u.toInt = ((-(x &&& (0 : Int64))).toInt % 18446744073709551616) / 9223372036854775808 := by rw [e_u]; exact c_lushr _ 63 63 (by decide) (by decide)
  have f4 : (x.toInt % 1 = 0 ∧ u.toInt = 0) ∨ (0 < x.toInt % 1 ∧ u.toInt = 1) := by omega
  clear f1 f2 f3
  refine WP.iloadN d1_39 rfl (pc' := 40) rfl ?_
  refine WP.bipush d1_40 (z := (10 : Int32)) rfl (pc' := 42) rfl ?_
  refine WP.ishl d1_42 (pc' := 43) rfl ?_
  rw [show ((0 : Int32) <<< ((10 : Int32) &&& 31)) = (0 : Int32) from by decide]
  refine WP.i2l d1_43 (pc' := 44) rfl ?_
  rw [show (0 : Int32).toInt64 = (0 : Int64) from by decide]
  refine WP.lloadN d1_44 rfl (pc' := 45) rfl ?_
  refine WP.iloadN d1_45 rfl (pc' := 46) rfl ?_
  refine WP.lushr d1_46 (pc' := 47) rfl ?_
  refine WP.ladd d1_47 (pc' := 48) rfl ?_
  refine WP.lloadN d1_48 rfl (pc' := 49) rfl ?_
  refine WP.ladd d1_49 (pc' := 50) rfl ?_
  have g1 : (ushrL x (0 : Int32)).toInt = x.toInt / 1 := by rw [ushrL0]; omega
  have g2 : ((0 : Int64) + (ushrL x (0 : Int32))).toInt = 0 + x.toInt / 1 := by rw [own_ladd] <;> omega
  have g3 : (((0 : Int64) + (ushrL x (0 : Int32))) + u).toInt = 0 + x.toInt / 1 + u.toInt := by rw [own_ladd] <;> omega
  have g4 := c_l2i (((0 : Int64) + (ushrL x (0 : Int32))) + u)
  have g5 := own_r32 (((0 : Int64) + (ushrL x (0 : Int32))) + u).toInt32
  have g6 := c_i2c (((0 : Int64) + (ushrL x (0 : Int32))) + u).toInt32
  have g7 := c_i2c ((((0 : Int64) + (ushrL x (0 : Int32))) + u).toInt32.toUInt32.toUInt16.toUInt32.toInt32)
  refine WP.l2i d1_50 (pc' := 51) rfl ?_
  refine WP.i2c d1_51 (pc' := 52) rfl ?_
  exact WP.retN d1_52 (t := .char) rfl (by simp) (by decide) (by decide) ⟨rfl, _, rfl, Or.inr ⟨by omega, by have e9 : (nar .char ((((0 : Int64) + (ushrL x (0 : Int32))) + u).toInt32.toUInt32.toUInt16.toUInt32.toInt32)).toInt = 0 + x.toInt / 1 + u.toInt := (show ((((0 : Int64) + (ushrL x (0 : Int32))) + u).toInt32.toUInt32.toUInt16.toUInt32.toInt32.toUInt32.toUInt16.toUInt32.toInt32).toInt = _ by omega); rw [e9]; exact vk_0 x.toInt _ hx0 (by omega) (by omega)⟩⟩
theorem run_27_1 {l : Launch} {Z : State} {a0 : Array Value} (hw : HW Z a0) {n0 : Nat} {h : Heap} (x : Int64) (hx0 : 0 ≤ x.toInt) (h1 : 2048 ≤ x.toInt) (h2 : x.toInt < 4096) : WP l B1 Z n0 (fun v h' => h = h' ∧ ∃ r : Int32, v = some (.int r) ∧ ((4611686018427387904 ≤ x.toInt ∧ r.toInt = 65535) ∨ (x.toInt < 4611686018427387904 ∧ r.toInt ≤ 54272 ∧ 0 ≤ r.toInt ∧ x.toInt ≤ valF r.toInt ∧ (r.toInt = 0 ∨ valF (r.toInt - 1) < x.toInt)))) h 0 0 27 #[.val (.long x), .second, .val (.int (1 : Int32)), .unset, .unset] [] := by
  have k32_1 : (1 : Int32).toInt = 1 := by decide
  have k32_10 : (10 : Int32).toInt = 10 := by decide
  have k32_63 : (63 : Int32).toInt = 63 := by decide
  have k32_1024 : (1024 : Int32).toInt = 1024 := by decide
  have k64_1 : (1 : Int64).toInt = 1 := by decide
  have k64_2 : (2 : Int64).toInt = 2 := by decide
  have k64_1024 : (1024 : Int64).toInt = 1024 := by decide
  refine WP.lloadN d1_27 rfl (pc' := 28) rfl ?_
  refine WP.lconst1 d1_28 (pc' := 29) rfl ?_
  refine WP.iloadN d1_29 rfl (pc' := 30) rfl ?_
  refine WP.lshl d1_30 (pc' := 31) rfl ?_
  rw [show ((1 : Int64) <<< ((1 : Int32) &&& 63).toInt64) = (2 : Int64) from by decide]
  refine WP.lconst1 d1_31 (pc' := 32) rfl ?_
  refine WP.lsub d1_32 (pc' := 33) rfl ?_
  rw [show (((2 : Int64) - (1 : Int64)) : Int64) = (1 : Int64) from by decide]
  refine WP.land d1_33 (pc' := 34) rfl ?_
  refine WP.lneg d1_34 (pc' := 35) rfl ?_
  refine WP.bipush d1_35 (z := (63 : Int32)) rfl (pc' := 37) rfl ?_
  refine WP.lushr d1_37 (pc' := 38) rfl ?_
  obtain ⟨u, e_u⟩ : ∃ z, z = (ushrL (-(x &&& (1 : Int64))) (63 : Int32)) := ⟨_, rfl⟩
  rw [← e_u]
  refine WP.lstoreN d1_38 (pc' := 39) rfl (ls' := #[.val (.long x), .second, .val (.int (1 : Int32)), .val (.long u), .second]) rfl ?_
  have f1 : (x &&& (1 : Int64)).toInt = x.toInt % 2 := own_maskL _ _ 1 _ (by decide) (by decide) (by decide)
  have f2 : (-(x &&& (1 : Int64))).toInt = -(x.toInt % 2) := by have g1 := c_lneg (x &&& (1 : Int64)); have g2 := own_r64 (-(x &&& (1 : Int64))); omega
  have f3 : u.toInt = ((-(x &&& (1 : Int64))).toInt % 18446744073709551616) / 9223372036854775808 := by rw [e_u]; exact c_lushr _ 63 63 (by decide) (by decide)
  have f4 : (x.toInt % 2 = 0 ∧ u.toInt = 0) ∨ (0 < x.toInt % 2 ∧ u.toInt = 1) := by omega
  clear f1 f2 f3
  refine WP.iloadN d1_39 rfl (pc' := 40) rfl ?_
  refine WP.bipush d1_40 (z := (10 : Int32)) rfl (pc' := 42) rfl ?_
  refine WP.ishl d1_42 (pc' := 43) rfl ?_
  rw [show ((1 : Int32) <<< ((10 : Int32) &&& 31)) = (1024 : Int32) from by decide]
  refine WP.i2l d1_43 (pc' := 44) rfl ?_
  rw [show (1024 : Int32).toInt64 = (1024 : Int64) from by decide]
  refine WP.lloadN d1_44 rfl (pc' := 45) rfl ?_
  refine WP.iloadN d1_45 rfl (pc' := 46) rfl ?_
  refine WP.lushr d1_46 (pc' := 47) rfl ?_
  refine WP.ladd d1_47 (pc' := 48) rfl ?_
  refine WP.lloadN d1_48 rfl (pc' := 49) rfl ?_
  refine WP.ladd d1_49 (pc' := 50) rfl ?_
  have g1 : (ushrL x (1 : Int32)).toInt = x.toInt / 2 := by have q : (ushrL x (1 : Int32)).toInt = (x.toInt % 18446744073709551616) / 2 := c_lushr x (1 : Int32) 1 (by decide) (by decide); omega
  have g2 : ((1024 : Int64) + (ushrL x (1 : Int32))).toInt = 1024 + x.toInt / 2 := by rw [own_ladd] <;> omega
  have g3 : (((1024 : Int64) + (ushrL x (1 : Int32))) + u).toInt = 1024 + x.toInt / 2 + u.toInt := by rw [own_ladd] <;> omega
  have g4 := c_l2i (((1024 : Int64) + (ushrL x (1 : Int32))) + u)
  have g5 := own_r32 (((1024 : Int64) + (ushrL x (1 : Int32))) + u).toInt32
  have g6 := c_i2c (((1024 : Int64) + (ushrL x (1 : Int32))) + u).toInt32
  have g7 := c_i2c ((((1024 : Int64) + (ushrL x (1 : Int32))) + u).toInt32.toUInt32.toUInt16.toUInt32.toInt32)
  refine WP.l2i d1_50 (pc' := 51) rfl ?_
  refine WP.i2c d1_51 (pc' := 52) rfl ?_
  exact WP.retN d1_52 (t := .char) rfl (by simp) (by decide) (by decide) ⟨rfl, _, rfl, Or.inr ⟨by omega, by have e9 : (nar .char ((((1024 : Int64) + (ushrL x (1 : Int32))) + u).toInt32.toUInt32.toUInt16.toUInt32.toInt32)).toInt = 1024 + x.toInt / 2 + u.toInt := (show ((((1024 : Int64) + (ushrL x (1 : Int32))) + u).toInt32.toUInt32.toUInt16.toUInt32.toInt32.toUInt32.toUInt16.toUInt32.toInt32).toInt = _ by omega); rw [e9]; exact vk_1 x.toInt (x.toInt / 2) (x.toInt % 2) u.toInt _ (by omega) (by omega) f4 (by omega) rfl⟩⟩
theorem run_27_2 {l : Launch} {Z : State} {a0 : Array Value} (hw : HW Z a0) {n0 : Nat} {h : Heap} (x : Int64) (hx0 : 0 ≤ x.toInt) (h1 : 4096 ≤ x.toInt) (h2 : x.toInt < 8192) : WP l B1 Z n0 (fun v h' => h = h' ∧ ∃ r : Int32, v = some (.int r) ∧ ((4611686018427387904 ≤ x.toInt ∧ r.toInt = 65535) ∨ (x.toInt < 4611686018427387904 ∧ r.toInt ≤ 54272 ∧ 0 ≤ r.toInt ∧ x.toInt ≤ valF r.toInt ∧ (r.toInt = 0 ∨ valF (r.toInt - 1) < x.toInt)))) h 0 0 27 #[.val (.long x), .second, .val (.int (2 : Int32)), .unset, .unset] [] := by
  have k32_2 : (2 : Int32).toInt = 2 := by decide
  have k32_10 : (10 : Int32).toInt = 10 := by decide
  have k32_63 : (63 : Int32).toInt = 63 := by decide
  have k32_2048 : (2048 : Int32).toInt = 2048 := by decide
  have k64_1 : (1 : Int64).toInt = 1 := by decide
  have k64_3 : (3 : Int64).toInt = 3 := by decide
  have k64_4 : (4 : Int64).toInt = 4 := by decide
  have k64_2048 : (2048 : Int64).toInt = 2048 := by decide
  refine WP.lloadN d1_27 rfl (pc' := 28) rfl ?_
  refine WP.lconst1 d1_28 (pc' := 29) rfl ?_
  refine WP.iloadN d1_29 rfl (pc' := 30) rfl ?_
  refine WP.lshl d1_30 (pc' := 31) rfl ?_
  rw [show ((1 : Int64) <<< ((2 : Int32) &&& 63).toInt64) = (4 : Int64) from by decide]
  refine WP.lconst1 d1_31 (pc' := 32) rfl ?_
  refine WP.lsub d1_32 (pc' := 33) rfl ?_
  rw [show (((4 : Int64) - (1 : Int64)) : Int64) = (3 : Int64) from by decide]
  refine WP.land d1_33 (pc' := 34) rfl ?_
  refine WP.lneg d1_34 (pc' := 35) rfl ?_
  refine WP.bipush d1_35 (z := (63 : Int32)) rfl (pc' := 37) rfl ?_
  refine WP.lushr d1_37 (pc' := 38) rfl ?_
  obtain ⟨u, e_u⟩ : ∃ z, z = (ushrL (-(x &&& (3 : Int64))) (63 : Int32)) := ⟨_, rfl⟩
  rw [← e_u]
  refine WP.lstoreN d1_38 (pc' := 39) rfl (ls' := #[.val (.long x), .second, .val (.int (2 : Int32)), .val (.long u), .second]) rfl ?_
  have f1 : (x &&& (3 : Int64)).toInt = x.toInt % 4 := own_maskL _ _ 2 _ (by decide) (by decide) (by decide)
  have f2 : (-(x &&& (3 : Int64))).toInt = -(x.toInt % 4) := by have g1 := c_lneg (x &&& (3 : Int64)); have g2 := own_r64 (-(x &&& (3 : Int64))); omega
  have f3 : u.toInt = ((-(x &&& (3 : Int64))).toInt % 18446744073709551616) / 9223372036854775808 := by rw [e_u]; exact c_lushr _ 63 63 (by decide) (by decide)
  have f4 : (x.toInt % 4 = 0 ∧ u.toInt = 0) ∨ (0 < x.toInt % 4 ∧ u.toInt = 1) := by omega
  clear f1 f2 f3
  refine WP.iloadN d1_39 rfl (pc' := 40) rfl ?_
  refine WP.bipush d1_40 (z := (10 : Int32)) rfl (pc' := 42) rfl ?_
  refine WP.ishl d1_42 (pc' := 43) rfl ?_
  rw [show ((2 : Int32) <<< ((10 : Int32) &&& 31)) = (2048 : Int32) from by decide]
  refine WP.i2l d1_43 (pc' := 44) rfl ?_
  rw [show (2048 : Int32).toInt64 = (2048 : Int64) from by decide]
  refine WP.lloadN d1_44 rfl (pc' := 45) rfl ?_
  refine WP.iloadN d1_45 rfl (pc' := 46) rfl ?_
  refine WP.lushr d1_46 (pc' := 47) rfl ?_
  refine WP.ladd d1_47 (pc' := 48) rfl ?_
  refine WP.lloadN d1_48 rfl (pc' := 49) rfl ?_
  refine WP.ladd d1_49 (pc' := 50) rfl ?_
  have g1 : (ushrL x (2 : Int32)).toInt = x.toInt / 4 := by have q : (ushrL x (2 : Int32)).toInt = (x.toInt % 18446744073709551616) / 4 := c_lushr x (2 : Int32) 2 (by decide) (by decide); omega
  have g2 : ((2048 : Int64) + (ushrL x (2 : Int32))).toInt = 2048 + x.toInt / 4 := by rw [own_ladd] <;> omega
  have g3 : (((2048 : Int64) + (ushrL x (2 : Int32))) + u).toInt = 2048 + x.toInt / 4 + u.toInt := by rw [own_ladd] <;> omega
  have g4 := c_l2i (((2048 : Int64) + (ushrL x (2 : Int32))) + u)
  have g5 := own_r32 (((2048 : Int64) + (ushrL x (2 : Int32))) + u).toInt32
  have g6 := c_i2c (((2048 : Int64) + (ushrL x (2 : Int32))) + u).toInt32
  have g7 := c_i2c ((((2048 : Int64) + (ushrL x (2 : Int32))) + u).toInt32.toUInt32.toUInt16.toUInt32.toInt32)
  refine WP.l2i d1_50 (pc' := 51) rfl ?_
  refine WP.i2c d1_51 (pc' := 52) rfl ?_
  exact WP.retN d1_52 (t := .char) rfl (by simp) (by decide) (by decide) ⟨rfl, _, rfl, Or.inr ⟨by omega, by have e9 : (nar .char ((((2048 : Int64) + (ushrL x (2 : Int32))) + u).toInt32.toUInt32.toUInt16.toUInt32.toInt32)).toInt = 2048 + x.toInt / 4 + u.toInt := (show ((((2048 : Int64) + (ushrL x (2 : Int32))) + u).toInt32.toUInt32.toUInt16.toUInt32.toInt32.toUInt32.toUInt16.toUInt32.toInt32).toInt = _ by omega); rw [e9]; exact vk_2 x.toInt (x.toInt / 4) (x.toInt % 4) u.toInt _ (by omega) (by omega) f4 (by omega) rfl⟩⟩
theorem run_27_3 {l : Launch} {Z : State} {a0 : Array Value} (hw : HW Z a0) {n0 : Nat} {h : Heap} (x : Int64) (hx0 : 0 ≤ x.toInt) (h1 : 8192 ≤ x.toInt) (h2 : x.toInt < 16384) : WP l B1 Z n0 (fun v h' => h = h' ∧ ∃ r : Int32, v = some (.int r) ∧ ((4611686018427387904 ≤ x.toInt ∧ r.toInt = 65535) ∨ (x.toInt < 4611686018427387904 ∧ r.toInt ≤ 54272 ∧ 0 ≤ r.toInt ∧ x.toInt ≤ valF r.toInt ∧ (r.toInt = 0 ∨ valF (r.toInt - 1) < x.toInt)))) h 0 0 27 #[.val (.long x), .second, .val (.int (3 : Int32)), .unset, .unset] [] := by
  have k32_3 : (3 : Int32).toInt = 3 := by decide
  have k32_10 : (10 : Int32).toInt = 10 := by decide
  have k32_63 : (63 : Int32).toInt = 63 := by decide
  have k32_3072 : (3072 : Int32).toInt = 3072 := by decide
  have k64_1 : (1 : Int64).toInt = 1 := by decide
  have k64_7 : (7 : Int64).toInt = 7 := by decide
  have k64_8 : (8 : Int64).toInt = 8 := by decide
  have k64_3072 : (3072 : Int64).toInt = 3072 := by decide
  refine WP.lloadN d1_27 rfl (pc' := 28) rfl ?_
  refine WP.lconst1 d1_28 (pc' := 29) rfl ?_
  refine WP.iloadN d1_29 rfl (pc' := 30) rfl ?_
  refine WP.lshl d1_30 (pc' := 31) rfl ?_
  rw [show ((1 : Int64) <<< ((3 : Int32) &&& 63).toInt64) = (8 : Int64) from by decide]
  refine WP.lconst1 d1_31 (pc' := 32) rfl ?_
  refine WP.lsub d1_32 (pc' := 33) rfl ?_
  rw [show (((8 : Int64) - (1 : Int64)) : Int64) = (7 : Int64) from by decide]
  refine WP.land d1_33 (pc' := 34) rfl ?_
  refine WP.lneg d1_34 (pc' := 35) rfl ?_
  refine WP.bipush d1_35 (z := (63 : Int32)) rfl (pc' := 37) rfl ?_
  refine WP.lushr d1_37 (pc' := 38) rfl ?_
  obtain ⟨u, e_u⟩ : ∃ z, z = (ushrL (-(x &&& (7 : Int64))) (63 : Int32)) := ⟨_, rfl⟩
  rw [← e_u]
  refine WP.lstoreN d1_38 (pc' := 39) rfl (ls' := #[.val (.long x), .second, .val (.int (3 : Int32)), .val (.long u), .second]) rfl ?_
  have f1 : (x &&& (7 : Int64)).toInt = x.toInt % 8 := own_maskL _ _ 3 _ (by decide) (by decide) (by decide)
  have f2 : (-(x &&& (7 : Int64))).toInt = -(x.toInt % 8) := by have g1 := c_lneg (x &&& (7 : Int64)); have g2 := own_r64 (-(x &&& (7 : Int64))); omega
  have f3 : u.toInt = ((-(x &&& (7 : Int64))).toInt % 18446744073709551616) / 9223372036854775808 := by rw [e_u]; exact c_lushr _ 63 63 (by decide) (by decide)
  have f4 : (x.toInt % 8 = 0 ∧ u.toInt = 0) ∨ (0 < x.toInt % 8 ∧ u.toInt = 1) := by omega
  clear f1 f2 f3
  refine WP.iloadN d1_39 rfl (pc' := 40) rfl ?_
  refine WP.bipush d1_40 (z := (10 : Int32)) rfl (pc' := 42) rfl ?_
  refine WP.ishl d1_42 (pc' := 43) rfl ?_
  rw [show ((3 : Int32) <<< ((10 : Int32) &&& 31)) = (3072 : Int32) from by decide]
  refine WP.i2l d1_43 (pc' := 44) rfl ?_
  rw [show (3072 : Int32).toInt64 = (3072 : Int64) from by decide]
  refine WP.lloadN d1_44 rfl (pc' := 45) rfl ?_
  refine WP.iloadN d1_45 rfl (pc' := 46) rfl ?_
  refine WP.lushr d1_46 (pc' := 47) rfl ?_
  refine WP.ladd d1_47 (pc' := 48) rfl ?_
  refine WP.lloadN d1_48 rfl (pc' := 49) rfl ?_
  refine WP.ladd d1_49 (pc' := 50) rfl ?_
  have g1 : (ushrL x (3 : Int32)).toInt = x.toInt / 8 := by have q : (ushrL x (3 : Int32)).toInt = (x.toInt % 18446744073709551616) / 8 := c_lushr x (3 : Int32) 3 (by decide) (by decide); omega
  have g2 : ((3072 : Int64) + (ushrL x (3 : Int32))).toInt = 3072 + x.toInt / 8 := by rw [own_ladd] <;> omega
  have g3 : (((3072 : Int64) + (ushrL x (3 : Int32))) + u).toInt = 3072 + x.toInt / 8 + u.toInt := by rw [own_ladd] <;> omega
  have g4 := c_l2i (((3072 : Int64) + (ushrL x (3 : Int32))) + u)
  have g5 := own_r32 (((3072 : Int64) + (ushrL x (3 : Int32))) + u).toInt32
  have g6 := c_i2c (((3072 : Int64) + (ushrL x (3 : Int32))) + u).toInt32
  have g7 := c_i2c ((((3072 : Int64) + (ushrL x (3 : Int32))) + u).toInt32.toUInt32.toUInt16.toUInt32.toInt32)
  refine WP.l2i d1_50 (pc' := 51) rfl ?_
  refine WP.i2c d1_51 (pc' := 52) rfl ?_
  exact WP.retN d1_52 (t := .char) rfl (by simp) (by decide) (by decide) ⟨rfl, _, rfl, Or.inr ⟨by omega, by have e9 : (nar .char ((((3072 : Int64) + (ushrL x (3 : Int32))) + u).toInt32.toUInt32.toUInt16.toUInt32.toInt32)).toInt = 3072 + x.toInt / 8 + u.toInt := (show ((((3072 : Int64) + (ushrL x (3 : Int32))) + u).toInt32.toUInt32.toUInt16.toUInt32.toInt32.toUInt32.toUInt16.toUInt32.toInt32).toInt = _ by omega); rw [e9]; exact vk_3 x.toInt (x.toInt / 8) (x.toInt % 8) u.toInt _ (by omega) (by omega) f4 (by omega) rfl⟩⟩
theorem run_27_4 {l : Launch} {Z : State} {a0 : Array Value} (hw : HW Z a0) {n0 : Nat} {h : Heap} (x : Int64) (hx0 : 0 ≤ x.toInt) (h1 : 16384 ≤ x.toInt) (h2 : x.toInt < 32768) : WP l B1 Z n0 (fun v h' => h = h' ∧ ∃ r : Int32, v = some (.int r) ∧ ((4611686018427387904 ≤ x.toInt ∧ r.toInt = 65535) ∨ (x.toInt < 4611686018427387904 ∧ r.toInt ≤ 54272 ∧ 0 ≤ r.toInt ∧ x.toInt ≤ valF r.toInt ∧ (r.toInt = 0 ∨ valF (r.toInt - 1) < x.toInt)))) h 0 0 27 #[.val (.long x), .second, .val (.int (4 : Int32)), .unset, .unset] [] := by
  have k32_4 : (4 : Int32).toInt = 4 := by decide
  have k32_10 : (10 : Int32).toInt = 10 := by decide
  have k32_63 : (63 : Int32).toInt = 63 := by decide
  have k32_4096 : (4096 : Int32).toInt = 4096 := by decide
  have k64_1 : (1 : Int64).toInt = 1 := by decide
  have k64_15 : (15 : Int64).toInt = 15 := by decide
  have k64_16 : (16 : Int64).toInt = 16 := by decide
  have k64_4096 : (4096 : Int64).toInt = 4096 := by decide
  refine WP.lloadN d1_27 rfl (pc' := 28) rfl ?_
  refine WP.lconst1 d1_28 (pc' := 29) rfl ?_
  refine WP.iloadN d1_29 rfl (pc' := 30) rfl ?_
  refine WP.lshl d1_30 (pc' := 31) rfl ?_
  rw [show ((1 : Int64) <<< ((4 : Int32) &&& 63).toInt64) = (16 : Int64) from by decide]
  refine WP.lconst1 d1_31 (pc' := 32) rfl ?_
  refine WP.lsub d1_32 (pc' := 33) rfl ?_
  rw [show (((16 : Int64) - (1 : Int64)) : Int64) = (15 : Int64) from by decide]
  refine WP.land d1_33 (pc' := 34) rfl ?_
  refine WP.lneg d1_34 (pc' := 35) rfl ?_
  refine WP.bipush d1_35 (z := (63 : Int32)) rfl (pc' := 37) rfl ?_
  refine WP.lushr d1_37 (pc' := 38) rfl ?_
  obtain ⟨u, e_u⟩ : ∃ z, z = (ushrL (-(x &&& (15 : Int64))) (63 : Int32)) := ⟨_, rfl⟩
  rw [← e_u]
  refine WP.lstoreN d1_38 (pc' := 39) rfl (ls' := #[.val (.long x), .second, .val (.int (4 : Int32)), .val (.long u), .second]) rfl ?_
  have f1 : (x &&& (15 : Int64)).toInt = x.toInt % 16 := own_maskL _ _ 4 _ (by decide) (by decide) (by decide)
  have f2 : (-(x &&& (15 : Int64))).toInt = -(x.toInt % 16) := by have g1 := c_lneg (x &&& (15 : Int64)); have g2 := own_r64 (-(x &&& (15 : Int64))); omega
  have f3 : u.toInt = ((-(x &&& (15 : Int64))).toInt % 18446744073709551616) / 9223372036854775808 := by rw [e_u]; exact c_lushr _ 63 63 (by decide) (by decide)
  have f4 : (x.toInt % 16 = 0 ∧ u.toInt = 0) ∨ (0 < x.toInt % 16 ∧ u.toInt = 1) := by omega
  clear f1 f2 f3
  refine WP.iloadN d1_39 rfl (pc' := 40) rfl ?_
  refine WP.bipush d1_40 (z := (10 : Int32)) rfl (pc' := 42) rfl ?_
  refine WP.ishl d1_42 (pc' := 43) rfl ?_
  rw [show ((4 : Int32) <<< ((10 : Int32) &&& 31)) = (4096 : Int32) from by decide]
  refine WP.i2l d1_43 (pc' := 44) rfl ?_
  rw [show (4096 : Int32).toInt64 = (4096 : Int64) from by decide]
  refine WP.lloadN d1_44 rfl (pc' := 45) rfl ?_
  refine WP.iloadN d1_45 rfl (pc' := 46) rfl ?_
  refine WP.lushr d1_46 (pc' := 47) rfl ?_
  refine WP.ladd d1_47 (pc' := 48) rfl ?_
  refine WP.lloadN d1_48 rfl (pc' := 49) rfl ?_
  refine WP.ladd d1_49 (pc' := 50) rfl ?_
  have g1 : (ushrL x (4 : Int32)).toInt = x.toInt / 16 := by have q : (ushrL x (4 : Int32)).toInt = (x.toInt % 18446744073709551616) / 16 := c_lushr x (4 : Int32) 4 (by decide) (by decide); omega
  have g2 : ((4096 : Int64) + (ushrL x (4 : Int32))).toInt = 4096 + x.toInt / 16 := by rw [own_ladd] <;> omega
  have g3 : (((4096 : Int64) + (ushrL x (4 : Int32))) + u).toInt = 4096 + x.toInt / 16 + u.toInt := by rw [own_ladd] <;> omega
  have g4 := c_l2i (((4096 : Int64) + (ushrL x (4 : Int32))) + u)
  have g5 := own_r32 (((4096 : Int64) + (ushrL x (4 : Int32))) + u).toInt32
  have g6 := c_i2c (((4096 : Int64) + (ushrL x (4 : Int32))) + u).toInt32
  have g7 := c_i2c ((((4096 : Int64) + (ushrL x (4 : Int32))) + u).toInt32.toUInt32.toUInt16.toUInt32.toInt32)
  refine WP.l2i d1_50 (pc' := 51) rfl ?_
  refine WP.i2c d1_51 (pc' := 52) rfl ?_
  exact WP.retN d1_52 (t := .char) rfl (by simp) (by decide) (by decide) ⟨rfl, _, rfl, Or.inr ⟨by omega, by have e9 : (nar .char ((((4096 : Int64) + (ushrL x (4 : Int32))) + u).toInt32.toUInt32.toUInt16.toUInt32.toInt32)).toInt = 4096 + x.toInt / 16 + u.toInt := (show ((((4096 : Int64) + (ushrL x (4 : Int32))) + u).toInt32.toUInt32.toUInt16.toUInt32.toInt32.toUInt32.toUInt16.toUInt32.toInt32).toInt = _ by omega); rw [e9]; exact vk_4 x.toInt (x.toInt / 16) (x.toInt % 16) u.toInt _ (by omega) (by omega) f4 (by omega) rfl⟩⟩
theorem run_27_5 {l : Launch} {Z : State} {a0 : Array Value} (hw : HW Z a0) {n0 : Nat} {h : Heap} (x : Int64) (hx0 : 0 ≤ x.toInt) (h1 : 32768 ≤ x.toInt) (h2 : x.toInt < 65536) : WP l B1 Z n0 (fun v h' => h = h' ∧ ∃ r : Int32, v = some (.int r) ∧ ((4611686018427387904 ≤ x.toInt ∧ r.toInt = 65535) ∨ (x.toInt < 4611686018427387904 ∧ r.toInt ≤ 54272 ∧ 0 ≤ r.toInt ∧ x.toInt ≤ valF r.toInt ∧ (r.toInt = 0 ∨ valF (r.toInt - 1) < x.toInt)))) h 0 0 27 #[.val (.long x), .second, .val (.int (5 : Int32)), .unset, .unset] [] := by
  have k32_5 : (5 : Int32).toInt = 5 := by decide
  have k32_10 : (10 : Int32).toInt = 10 := by decide
  have k32_63 : (63 : Int32).toInt = 63 := by decide
  have k32_5120 : (5120 : Int32).toInt = 5120 := by decide
  have k64_1 : (1 : Int64).toInt = 1 := by decide
  have k64_31 : (31 : Int64).toInt = 31 := by decide
  have k64_32 : (32 : Int64).toInt = 32 := by decide
  have k64_5120 : (5120 : Int64).toInt = 5120 := by decide
  refine WP.lloadN d1_27 rfl (pc' := 28) rfl ?_
  refine WP.lconst1 d1_28 (pc' := 29) rfl ?_
  refine WP.iloadN d1_29 rfl (pc' := 30) rfl ?_
  refine WP.lshl d1_30 (pc' := 31) rfl ?_
  rw [show ((1 : Int64) <<< ((5 : Int32) &&& 63).toInt64) = (32 : Int64) from by decide]
  refine WP.lconst1 d1_31 (pc' := 32) rfl ?_
  refine WP.lsub d1_32 (pc' := 33) rfl ?_
  rw [show (((32 : Int64) - (1 : Int64)) : Int64) = (31 : Int64) from by decide]
  refine WP.land d1_33 (pc' := 34) rfl ?_
  refine WP.lneg d1_34 (pc' := 35) rfl ?_
  refine WP.bipush d1_35 (z := (63 : Int32)) rfl (pc' := 37) rfl ?_
  refine WP.lushr d1_37 (pc' := 38) rfl ?_
  obtain ⟨u, e_u⟩ : ∃ z, z = (ushrL (-(x &&& (31 : Int64))) (63 : Int32)) := ⟨_, rfl⟩
  rw [← e_u]
  refine WP.lstoreN d1_38 (pc' := 39) rfl (ls' := #[.val (.long x), .second, .val (.int (5 : Int32)), .val (.long u), .second]) rfl ?_
  have f1 : (x &&& (31 : Int64)).toInt = x.toInt % 32 := own_maskL _ _ 5 _ (by decide) (by decide) (by decide)
  have f2 : (-(x &&& (31 : Int64))).toInt = -(x.toInt % 32) := by have g1 := c_lneg (x &&& (31 : Int64)); have g2 := own_r64 (-(x &&& (31 : Int64))); omega
  have f3 : u.toInt = ((-(x &&& (31 : Int64))).toInt % 18446744073709551616) / 9223372036854775808 := by rw [e_u]; exact c_lushr _ 63 63 (by decide) (by decide)
  have f4 : (x.toInt % 32 = 0 ∧ u.toInt = 0) ∨ (0 < x.toInt % 32 ∧ u.toInt = 1) := by omega
  clear f1 f2 f3
  refine WP.iloadN d1_39 rfl (pc' := 40) rfl ?_
  refine WP.bipush d1_40 (z := (10 : Int32)) rfl (pc' := 42) rfl ?_
  refine WP.ishl d1_42 (pc' := 43) rfl ?_
  rw [show ((5 : Int32) <<< ((10 : Int32) &&& 31)) = (5120 : Int32) from by decide]
  refine WP.i2l d1_43 (pc' := 44) rfl ?_
  rw [show (5120 : Int32).toInt64 = (5120 : Int64) from by decide]
  refine WP.lloadN d1_44 rfl (pc' := 45) rfl ?_
  refine WP.iloadN d1_45 rfl (pc' := 46) rfl ?_
  refine WP.lushr d1_46 (pc' := 47) rfl ?_
  refine WP.ladd d1_47 (pc' := 48) rfl ?_
  refine WP.lloadN d1_48 rfl (pc' := 49) rfl ?_
  refine WP.ladd d1_49 (pc' := 50) rfl ?_
  have g1 : (ushrL x (5 : Int32)).toInt = x.toInt / 32 := by have q : (ushrL x (5 : Int32)).toInt = (x.toInt % 18446744073709551616) / 32 := c_lushr x (5 : Int32) 5 (by decide) (by decide); omega
  have g2 : ((5120 : Int64) + (ushrL x (5 : Int32))).toInt = 5120 + x.toInt / 32 := by rw [own_ladd] <;> omega
  have g3 : (((5120 : Int64) + (ushrL x (5 : Int32))) + u).toInt = 5120 + x.toInt / 32 + u.toInt := by rw [own_ladd] <;> omega
  have g4 := c_l2i (((5120 : Int64) + (ushrL x (5 : Int32))) + u)
  have g5 := own_r32 (((5120 : Int64) + (ushrL x (5 : Int32))) + u).toInt32
  have g6 := c_i2c (((5120 : Int64) + (ushrL x (5 : Int32))) + u).toInt32
  have g7 := c_i2c ((((5120 : Int64) + (ushrL x (5 : Int32))) + u).toInt32.toUInt32.toUInt16.toUInt32.toInt32)
  refine WP.l2i d1_50 (pc' := 51) rfl ?_
  refine WP.i2c d1_51 (pc' := 52) rfl ?_
  exact WP.retN d1_52 (t := .char) rfl (by simp) (by decide) (by decide) ⟨rfl, _, rfl, Or.inr ⟨by omega, by have e9 : (nar .char ((((5120 : Int64) + (ushrL x (5 : Int32))) + u).toInt32.toUInt32.toUInt16.toUInt32.toInt32)).toInt = 5120 + x.toInt / 32 + u.toInt := (show ((((5120 : Int64) + (ushrL x (5 : Int32))) + u).toInt32.toUInt32.toUInt16.toUInt32.toInt32.toUInt32.toUInt16.toUInt32.toInt32).toInt = _ by omega); rw [e9]; exact vk_5 x.toInt (x.toInt / 32) (x.toInt % 32) u.toInt _ (by omega) (by omega) f4 (by omega) rfl⟩⟩
theorem run_27_6 {l : Launch} {Z : State} {a0 : Array Value} (hw : HW Z a0) {n0 : Nat} {h : Heap} (x : Int64) (hx0 : 0 ≤ x.toInt) (h1 : 65536 ≤ x.toInt) (h2 : x.toInt < 131072) : WP l B1 Z n0 (fun v h' => h = h' ∧ ∃ r : Int32, v = some (.int r) ∧ ((4611686018427387904 ≤ x.toInt ∧ r.toInt = 65535) ∨ (x.toInt < 4611686018427387904 ∧ r.toInt ≤ 54272 ∧ 0 ≤ r.toInt ∧ x.toInt ≤ valF r.toInt ∧ (r.toInt = 0 ∨ valF (r.toInt - 1) < x.toInt)))) h 0 0 27 #[.val (.long x), .second, .val (.int (6 : Int32)), .unset, .unset] [] := by
  have k32_6 : (6 : Int32).toInt = 6 := by decide
  have k32_10 : (10 : Int32).toInt = 10 := by decide
  have k32_63 : (63 : Int32).toInt = 63 := by decide
  have k32_6144 : (6144 : Int32).toInt = 6144 := by decide
  have k64_1 : (1 : Int64).toInt = 1 := by decide
  have k64_63 : (63 : Int64).toInt = 63 := by decide
  have k64_64 : (64 : Int64).toInt = 64 := by decide
  have k64_6144 : (6144 : Int64).toInt = 6144 := by decide
  refine WP.lloadN d1_27 rfl (pc' := 28) rfl ?_
  refine WP.lconst1 d1_28 (pc' := 29) rfl ?_
  refine WP.iloadN d1_29 rfl (pc' := 30) rfl ?_
  refine WP.lshl d1_30 (pc' := 31) rfl ?_
  rw [show ((1 : Int64) <<< ((6 : Int32) &&& 63).toInt64) = (64 : Int64) from by decide]
  refine WP.lconst1 d1_31 (pc' := 32) rfl ?_
  refine WP.lsub d1_32 (pc' := 33) rfl ?_
  rw [show (((64 : Int64) - (1 : Int64)) : Int64) = (63 : Int64) from by decide]
  refine WP.land d1_33 (pc' := 34) rfl ?_
  refine WP.lneg d1_34 (pc' := 35) rfl ?_
  refine WP.bipush d1_35 (z := (63 : Int32)) rfl (pc' := 37) rfl ?_
  refine WP.lushr d1_37 (pc' := 38) rfl ?_
  obtain ⟨u, e_u⟩ : ∃ z, z = (ushrL (-(x &&& (63 : Int64))) (63 : Int32)) := ⟨_, rfl⟩
  rw [← e_u]
  refine WP.lstoreN d1_38 (pc' := 39) rfl (ls' := #[.val (.long x), .second, .val (.int (6 : Int32)), .val (.long u), .second]) rfl ?_
  have f1 : (x &&& (63 : Int64)).toInt = x.toInt % 64 := own_maskL _ _ 6 _ (by decide) (by decide) (by decide)
  have f2 : (-(x &&& (63 : Int64))).toInt = -(x.toInt % 64) := by have g1 := c_lneg (x &&& (63 : Int64)); have g2 := own_r64 (-(x &&& (63 : Int64))); omega
  have f3 : u.toInt = ((-(x &&& (63 : Int64))).toInt % 18446744073709551616) / 9223372036854775808 := by rw [e_u]; exact c_lushr _ 63 63 (by decide) (by decide)
  have f4 : (x.toInt % 64 = 0 ∧ u.toInt = 0) ∨ (0 < x.toInt % 64 ∧ u.toInt = 1) := by omega
  clear f1 f2 f3
  refine WP.iloadN d1_39 rfl (pc' := 40) rfl ?_
  refine WP.bipush d1_40 (z := (10 : Int32)) rfl (pc' := 42) rfl ?_
  refine WP.ishl d1_42 (pc' := 43) rfl ?_
  rw [show ((6 : Int32) <<< ((10 : Int32) &&& 31)) = (6144 : Int32) from by decide]
  refine WP.i2l d1_43 (pc' := 44) rfl ?_
  rw [show (6144 : Int32).toInt64 = (6144 : Int64) from by decide]
  refine WP.lloadN d1_44 rfl (pc' := 45) rfl ?_
  refine WP.iloadN d1_45 rfl (pc' := 46) rfl ?_
  refine WP.lushr d1_46 (pc' := 47) rfl ?_
  refine WP.ladd d1_47 (pc' := 48) rfl ?_
  refine WP.lloadN d1_48 rfl (pc' := 49) rfl ?_
  refine WP.ladd d1_49 (pc' := 50) rfl ?_
  have g1 : (ushrL x (6 : Int32)).toInt = x.toInt / 64 := by have q : (ushrL x (6 : Int32)).toInt = (x.toInt % 18446744073709551616) / 64 := c_lushr x (6 : Int32) 6 (by decide) (by decide); omega
  have g2 : ((6144 : Int64) + (ushrL x (6 : Int32))).toInt = 6144 + x.toInt / 64 := by rw [own_ladd] <;> omega
  have g3 : (((6144 : Int64) + (ushrL x (6 : Int32))) + u).toInt = 6144 + x.toInt / 64 + u.toInt := by rw [own_ladd] <;> omega
  have g4 := c_l2i (((6144 : Int64) + (ushrL x (6 : Int32))) + u)
  have g5 := own_r32 (((6144 : Int64) + (ushrL x (6 : Int32))) + u).toInt32
  have g6 := c_i2c (((6144 : Int64) + (ushrL x (6 : Int32))) + u).toInt32
  have g7 := c_i2c ((((6144 : Int64) + (ushrL x (6 : Int32))) + u).toInt32.toUInt32.toUInt16.toUInt32.toInt32)
  refine WP.l2i d1_50 (pc' := 51) rfl ?_
  refine WP.i2c d1_51 (pc' := 52) rfl ?_
  exact WP.retN d1_52 (t := .char) rfl (by simp) (by decide) (by decide) ⟨rfl, _, rfl, Or.inr ⟨by omega, by have e9 : (nar .char ((((6144 : Int64) + (ushrL x (6 : Int32))) + u).toInt32.toUInt32.toUInt16.toUInt32.toInt32)).toInt = 6144 + x.toInt / 64 + u.toInt := (show ((((6144 : Int64) + (ushrL x (6 : Int32))) + u).toInt32.toUInt32.toUInt16.toUInt32.toInt32.toUInt32.toUInt16.toUInt32.toInt32).toInt = _ by omega); rw [e9]; exact vk_6 x.toInt (x.toInt / 64) (x.toInt % 64) u.toInt _ (by omega) (by omega) f4 (by omega) rfl⟩⟩
theorem run_27_7 {l : Launch} {Z : State} {a0 : Array Value} (hw : HW Z a0) {n0 : Nat} {h : Heap} (x : Int64) (hx0 : 0 ≤ x.toInt) (h1 : 131072 ≤ x.toInt) (h2 : x.toInt < 262144) : WP l B1 Z n0 (fun v h' => h = h' ∧ ∃ r : Int32, v = some (.int r) ∧ ((4611686018427387904 ≤ x.toInt ∧ r.toInt = 65535) ∨ (x.toInt < 4611686018427387904 ∧ r.toInt ≤ 54272 ∧ 0 ≤ r.toInt ∧ x.toInt ≤ valF r.toInt ∧ (r.toInt = 0 ∨ valF (r.toInt - 1) < x.toInt)))) h 0 0 27 #[.val (.long x), .second, .val (.int (7 : Int32)), .unset, .unset] [] := by
  have k32_7 : (7 : Int32).toInt = 7 := by decide
  have k32_10 : (10 : Int32).toInt = 10 := by decide
  have k32_63 : (63 : Int32).toInt = 63 := by decide
  have k32_7168 : (7168 : Int32).toInt = 7168 := by decide
  have k64_1 : (1 : Int64).toInt = 1 := by decide
  have k64_127 : (127 : Int64).toInt = 127 := by decide
  have k64_128 : (128 : Int64).toInt = 128 := by decide
  have k64_7168 : (7168 : Int64).toInt = 7168 := by decide
  refine WP.lloadN d1_27 rfl (pc' := 28) rfl ?_
  refine WP.lconst1 d1_28 (pc' := 29) rfl ?_
  refine WP.iloadN d1_29 rfl (pc' := 30) rfl ?_
  refine WP.lshl d1_30 (pc' := 31) rfl ?_
  rw [show ((1 : Int64) <<< ((7 : Int32) &&& 63).toInt64) = (128 : Int64) from by decide]
  refine WP.lconst1 d1_31 (pc' := 32) rfl ?_
  refine WP.lsub d1_32 (pc' := 33) rfl ?_
  rw [show (((128 : Int64) - (1 : Int64)) : Int64) = (127 : Int64) from by decide]
  refine WP.land d1_33 (pc' := 34) rfl ?_
  refine WP.lneg d1_34 (pc' := 35) rfl ?_
  refine WP.bipush d1_35 (z := (63 : Int32)) rfl (pc' := 37) rfl ?_
  refine WP.lushr d1_37 (pc' := 38) rfl ?_
  obtain ⟨u, e_u⟩ : ∃ z, z = (ushrL (-(x &&& (127 : Int64))) (63 : Int32)) := ⟨_, rfl⟩
  rw [← e_u]
  refine WP.lstoreN d1_38 (pc' := 39) rfl (ls' := #[.val (.long x), .second, .val (.int (7 : Int32)), .val (.long u), .second]) rfl ?_
  have f1 : (x &&& (127 : Int64)).toInt = x.toInt % 128 := own_maskL _ _ 7 _ (by decide) (by decide) (by decide)
  have f2 : (-(x &&& (127 : Int64))).toInt = -(x.toInt % 128) := by have g1 := c_lneg (x &&& (127 : Int64)); have g2 := own_r64 (-(x &&& (127 : Int64))); omega
  have f3 : u.toInt = ((-(x &&& (127 : Int64))).toInt % 18446744073709551616) / 9223372036854775808 := by rw [e_u]; exact c_lushr _ 63 63 (by decide) (by decide)
  have f4 : (x.toInt % 128 = 0 ∧ u.toInt = 0) ∨ (0 < x.toInt % 128 ∧ u.toInt = 1) := by omega
  clear f1 f2 f3
  refine WP.iloadN d1_39 rfl (pc' := 40) rfl ?_
  refine WP.bipush d1_40 (z := (10 : Int32)) rfl (pc' := 42) rfl ?_
  refine WP.ishl d1_42 (pc' := 43) rfl ?_
  rw [show ((7 : Int32) <<< ((10 : Int32) &&& 31)) = (7168 : Int32) from by decide]
  refine WP.i2l d1_43 (pc' := 44) rfl ?_
  rw [show (7168 : Int32).toInt64 = (7168 : Int64) from by decide]
  refine WP.lloadN d1_44 rfl (pc' := 45) rfl ?_
  refine WP.iloadN d1_45 rfl (pc' := 46) rfl ?_
  refine WP.lushr d1_46 (pc' := 47) rfl ?_
  refine WP.ladd d1_47 (pc' := 48) rfl ?_
  refine WP.lloadN d1_48 rfl (pc' := 49) rfl ?_
  refine WP.ladd d1_49 (pc' := 50) rfl ?_
  have g1 : (ushrL x (7 : Int32)).toInt = x.toInt / 128 := by have q : (ushrL x (7 : Int32)).toInt = (x.toInt % 18446744073709551616) / 128 := c_lushr x (7 : Int32) 7 (by decide) (by decide); omega
  have g2 : ((7168 : Int64) + (ushrL x (7 : Int32))).toInt = 7168 + x.toInt / 128 := by rw [own_ladd] <;> omega
  have g3 : (((7168 : Int64) + (ushrL x (7 : Int32))) + u).toInt = 7168 + x.toInt / 128 + u.toInt := by rw [own_ladd] <;> omega
  have g4 := c_l2i (((7168 : Int64) + (ushrL x (7 : Int32))) + u)
  have g5 := own_r32 (((7168 : Int64) + (ushrL x (7 : Int32))) + u).toInt32
  have g6 := c_i2c (((7168 : Int64) + (ushrL x (7 : Int32))) + u).toInt32
  have g7 := c_i2c ((((7168 : Int64) + (ushrL x (7 : Int32))) + u).toInt32.toUInt32.toUInt16.toUInt32.toInt32)
  refine WP.l2i d1_50 (pc' := 51) rfl ?_
  refine WP.i2c d1_51 (pc' := 52) rfl ?_
  exact WP.retN d1_52 (t := .char) rfl (by simp) (by decide) (by decide) ⟨rfl, _, rfl, Or.inr ⟨by omega, by have e9 : (nar .char ((((7168 : Int64) + (ushrL x (7 : Int32))) + u).toInt32.toUInt32.toUInt16.toUInt32.toInt32)).toInt = 7168 + x.toInt / 128 + u.toInt := (show ((((7168 : Int64) + (ushrL x (7 : Int32))) + u).toInt32.toUInt32.toUInt16.toUInt32.toInt32.toUInt32.toUInt16.toUInt32.toInt32).toInt = _ by omega); rw [e9]; exact vk_7 x.toInt (x.toInt / 128) (x.toInt % 128) u.toInt _ (by omega) (by omega) f4 (by omega) rfl⟩⟩
theorem run_27_8 {l : Launch} {Z : State} {a0 : Array Value} (hw : HW Z a0) {n0 : Nat} {h : Heap} (x : Int64) (hx0 : 0 ≤ x.toInt) (h1 : 262144 ≤ x.toInt) (h2 : x.toInt < 524288) : WP l B1 Z n0 (fun v h' => h = h' ∧ ∃ r : Int32, v = some (.int r) ∧ ((4611686018427387904 ≤ x.toInt ∧ r.toInt = 65535) ∨ (x.toInt < 4611686018427387904 ∧ r.toInt ≤ 54272 ∧ 0 ≤ r.toInt ∧ x.toInt ≤ valF r.toInt ∧ (r.toInt = 0 ∨ valF (r.toInt - 1) < x.toInt)))) h 0 0 27 #[.val (.long x), .second, .val (.int (8 : Int32)), .unset, .unset] [] := by
  have k32_8 : (8 : Int32).toInt = 8 := by decide
  have k32_10 : (10 : Int32).toInt = 10 := by decide
  have k32_63 : (63 : Int32).toInt = 63 := by decide
  have k32_8192 : (8192 : Int32).toInt = 8192 := by decide
  have k64_1 : (1 : Int64).toInt = 1 := by decide
  have k64_255 : (255 : Int64).toInt = 255 := by decide
  have k64_256 : (256 : Int64).toInt = 256 := by decide
  have k64_8192 : (8192 : Int64).toInt = 8192 := by decide
  refine WP.lloadN d1_27 rfl (pc' := 28) rfl ?_
  refine WP.lconst1 d1_28 (pc' := 29) rfl ?_
  refine WP.iloadN d1_29 rfl (pc' := 30) rfl ?_
  refine WP.lshl d1_30 (pc' := 31) rfl ?_
  rw [show ((1 : Int64) <<< ((8 : Int32) &&& 63).toInt64) = (256 : Int64) from by decide]
  refine WP.lconst1 d1_31 (pc' := 32) rfl ?_
  refine WP.lsub d1_32 (pc' := 33) rfl ?_
  rw [show (((256 : Int64) - (1 : Int64)) : Int64) = (255 : Int64) from by decide]
  refine WP.land d1_33 (pc' := 34) rfl ?_
  refine WP.lneg d1_34 (pc' := 35) rfl ?_
  refine WP.bipush d1_35 (z := (63 : Int32)) rfl (pc' := 37) rfl ?_
  refine WP.lushr d1_37 (pc' := 38) rfl ?_
  obtain ⟨u, e_u⟩ : ∃ z, z = (ushrL (-(x &&& (255 : Int64))) (63 : Int32)) := ⟨_, rfl⟩
  rw [← e_u]
  refine WP.lstoreN d1_38 (pc' := 39) rfl (ls' := #[.val (.long x), .second, .val (.int (8 : Int32)), .val (.long u), .second]) rfl ?_
  have f1 : (x &&& (255 : Int64)).toInt = x.toInt % 256 := own_maskL _ _ 8 _ (by decide) (by decide) (by decide)
  have f2 : (-(x &&& (255 : Int64))).toInt = -(x.toInt % 256) := by have g1 := c_lneg (x &&& (255 : Int64)); have g2 := own_r64 (-(x &&& (255 : Int64))); omega
  have f3 : u.toInt = ((-(x &&& (255 : Int64))).toInt % 18446744073709551616) / 9223372036854775808 := by rw [e_u]; exact c_lushr _ 63 63 (by decide) (by decide)
  have f4 : (x.toInt % 256 = 0 ∧ u.toInt = 0) ∨ (0 < x.toInt % 256 ∧ u.toInt = 1) := by omega
  clear f1 f2 f3
  refine WP.iloadN d1_39 rfl (pc' := 40) rfl ?_
  refine WP.bipush d1_40 (z := (10 : Int32)) rfl (pc' := 42) rfl ?_
  refine WP.ishl d1_42 (pc' := 43) rfl ?_
  rw [show ((8 : Int32) <<< ((10 : Int32) &&& 31)) = (8192 : Int32) from by decide]
  refine WP.i2l d1_43 (pc' := 44) rfl ?_
  rw [show (8192 : Int32).toInt64 = (8192 : Int64) from by decide]
  refine WP.lloadN d1_44 rfl (pc' := 45) rfl ?_
  refine WP.iloadN d1_45 rfl (pc' := 46) rfl ?_
  refine WP.lushr d1_46 (pc' := 47) rfl ?_
  refine WP.ladd d1_47 (pc' := 48) rfl ?_
  refine WP.lloadN d1_48 rfl (pc' := 49) rfl ?_
  refine WP.ladd d1_49 (pc' := 50) rfl ?_
  have g1 : (ushrL x (8 : Int32)).toInt = x.toInt / 256 := by have q : (ushrL x (8 : Int32)).toInt = (x.toInt % 18446744073709551616) / 256 := c_lushr x (8 : Int32) 8 (by decide) (by decide); omega
  have g2 : ((8192 : Int64) + (ushrL x (8 : Int32))).toInt = 8192 + x.toInt / 256 := by rw [own_ladd] <;> omega
  have g3 : (((8192 : Int64) + (ushrL x (8 : Int32))) + u).toInt = 8192 + x.toInt / 256 + u.toInt := by rw [own_ladd] <;> omega
  have g4 := c_l2i (((8192 : Int64) + (ushrL x (8 : Int32))) + u)
  have g5 := own_r32 (((8192 : Int64) + (ushrL x (8 : Int32))) + u).toInt32
  have g6 := c_i2c (((8192 : Int64) + (ushrL x (8 : Int32))) + u).toInt32
  have g7 := c_i2c ((((8192 : Int64) + (ushrL x (8 : Int32))) + u).toInt32.toUInt32.toUInt16.toUInt32.toInt32)
  refine WP.l2i d1_50 (pc' := 51) rfl ?_
  refine WP.i2c d1_51 (pc' := 52) rfl ?_
  exact WP.retN d1_52 (t := .char) rfl (by simp) (by decide) (by decide) ⟨rfl, _, rfl, Or.inr ⟨by omega, by have e9 : (nar .char ((((8192 : Int64) + (ushrL x (8 : Int32))) + u).toInt32.toUInt32.toUInt16.toUInt32.toInt32)).toInt = 8192 + x.toInt / 256 + u.toInt := (show ((((8192 : Int64) + (ushrL x (8 : Int32))) + u).toInt32.toUInt32.toUInt16.toUInt32.toInt32.toUInt32.toUInt16.toUInt32.toInt32).toInt = _ by omega); rw [e9]; exact vk_8 x.toInt (x.toInt / 256) (x.toInt % 256) u.toInt _ (by omega) (by omega) f4 (by omega) rfl⟩⟩
theorem run_27_9 {l : Launch} {Z : State} {a0 : Array Value} (hw : HW Z a0) {n0 : Nat} {h : Heap} (x : Int64) (hx0 : 0 ≤ x.toInt) (h1 : 524288 ≤ x.toInt) (h2 : x.toInt < 1048576) : WP l B1 Z n0 (fun v h' => h = h' ∧ ∃ r : Int32, v = some (.int r) ∧ ((4611686018427387904 ≤ x.toInt ∧ r.toInt = 65535) ∨ (x.toInt < 4611686018427387904 ∧ r.toInt ≤ 54272 ∧ 0 ≤ r.toInt ∧ x.toInt ≤ valF r.toInt ∧ (r.toInt = 0 ∨ valF (r.toInt - 1) < x.toInt)))) h 0 0 27 #[.val (.long x), .second, .val (.int (9 : Int32)), .unset, .unset] [] := by
  have k32_9 : (9 : Int32).toInt = 9 := by decide
  have k32_10 : (10 : Int32).toInt = 10 := by decide
  have k32_63 : (63 : Int32).toInt = 63 := by decide
  have k32_9216 : (9216 : Int32).toInt = 9216 := by decide
  have k64_1 : (1 : Int64).toInt = 1 := by decide
  have k64_511 : (511 : Int64).toInt = 511 := by decide
  have k64_512 : (512 : Int64).toInt = 512 := by decide
  have k64_9216 : (9216 : Int64).toInt = 9216 := by decide
  refine WP.lloadN d1_27 rfl (pc' := 28) rfl ?_
  refine WP.lconst1 d1_28 (pc' := 29) rfl ?_
  refine WP.iloadN d1_29 rfl (pc' := 30) rfl ?_
  refine WP.lshl d1_30 (pc' := 31) rfl ?_
  rw [show ((1 : Int64) <<< ((9 : Int32) &&& 63).toInt64) = (512 : Int64) from by decide]
  refine WP.lconst1 d1_31 (pc' := 32) rfl ?_
  refine WP.lsub d1_32 (pc' := 33) rfl ?_
  rw [show (((512 : Int64) - (1 : Int64)) : Int64) = (511 : Int64) from by decide]
  refine WP.land d1_33 (pc' := 34) rfl ?_
  refine WP.lneg d1_34 (pc' := 35) rfl ?_
  refine WP.bipush d1_35 (z := (63 : Int32)) rfl (pc' := 37) rfl ?_
  refine WP.lushr d1_37 (pc' := 38) rfl ?_
  obtain ⟨u, e_u⟩ : ∃ z, z = (ushrL (-(x &&& (511 : Int64))) (63 : Int32)) := ⟨_, rfl⟩
  rw [← e_u]
  refine WP.lstoreN d1_38 (pc' := 39) rfl (ls' := #[.val (.long x), .second, .val (.int (9 : Int32)), .val (.long u), .second]) rfl ?_
  have f1 : (x &&& (511 : Int64)).toInt = x.toInt % 512 := own_maskL _ _ 9 _ (by decide) (by decide) (by decide)
  have f2 : (-(x &&& (511 : Int64))).toInt = -(x.toInt % 512) := by have g1 := c_lneg (x &&& (511 : Int64)); have g2 := own_r64 (-(x &&& (511 : Int64))); omega
  have f3 : u.toInt = ((-(x &&& (511 : Int64))).toInt % 18446744073709551616) / 9223372036854775808 := by rw [e_u]; exact c_lushr _ 63 63 (by decide) (by decide)
  have f4 : (x.toInt % 512 = 0 ∧ u.toInt = 0) ∨ (0 < x.toInt % 512 ∧ u.toInt = 1) := by omega
  clear f1 f2 f3
  refine WP.iloadN d1_39 rfl (pc' := 40) rfl ?_
  refine WP.bipush d1_40 (z := (10 : Int32)) rfl (pc' := 42) rfl ?_
  refine WP.ishl d1_42 (pc' := 43) rfl ?_
  rw [show ((9 : Int32) <<< ((10 : Int32) &&& 31)) = (9216 : Int32) from by decide]
  refine WP.i2l d1_43 (pc' := 44) rfl ?_
  rw [show (9216 : Int32).toInt64 = (9216 : Int64) from by decide]
  refine WP.lloadN d1_44 rfl (pc' := 45) rfl ?_
  refine WP.iloadN d1_45 rfl (pc' := 46) rfl ?_
  refine WP.lushr d1_46 (pc' := 47) rfl ?_
  refine WP.ladd d1_47 (pc' := 48) rfl ?_
  refine WP.lloadN d1_48 rfl (pc' := 49) rfl ?_
  refine WP.ladd d1_49 (pc' := 50) rfl ?_
  have g1 : (ushrL x (9 : Int32)).toInt = x.toInt / 512 := by have q : (ushrL x (9 : Int32)).toInt = (x.toInt % 18446744073709551616) / 512 := c_lushr x (9 : Int32) 9 (by decide) (by decide); omega
  have g2 : ((9216 : Int64) + (ushrL x (9 : Int32))).toInt = 9216 + x.toInt / 512 := by rw [own_ladd] <;> omega
  have g3 : (((9216 : Int64) + (ushrL x (9 : Int32))) + u).toInt = 9216 + x.toInt / 512 + u.toInt := by rw [own_ladd] <;> omega
  have g4 := c_l2i (((9216 : Int64) + (ushrL x (9 : Int32))) + u)
  have g5 := own_r32 (((9216 : Int64) + (ushrL x (9 : Int32))) + u).toInt32
  have g6 := c_i2c (((9216 : Int64) + (ushrL x (9 : Int32))) + u).toInt32
  have g7 := c_i2c ((((9216 : Int64) + (ushrL x (9 : Int32))) + u).toInt32.toUInt32.toUInt16.toUInt32.toInt32)
  refine WP.l2i d1_50 (pc' := 51) rfl ?_
  refine WP.i2c d1_51 (pc' := 52) rfl ?_
  exact WP.retN d1_52 (t := .char) rfl (by simp) (by decide) (by decide) ⟨rfl, _, rfl, Or.inr ⟨by omega, by have e9 : (nar .char ((((9216 : Int64) + (ushrL x (9 : Int32))) + u).toInt32.toUInt32.toUInt16.toUInt32.toInt32)).toInt = 9216 + x.toInt / 512 + u.toInt := (show ((((9216 : Int64) + (ushrL x (9 : Int32))) + u).toInt32.toUInt32.toUInt16.toUInt32.toInt32.toUInt32.toUInt16.toUInt32.toInt32).toInt = _ by omega); rw [e9]; exact vk_9 x.toInt (x.toInt / 512) (x.toInt % 512) u.toInt _ (by omega) (by omega) f4 (by omega) rfl⟩⟩
theorem run_27_10 {l : Launch} {Z : State} {a0 : Array Value} (hw : HW Z a0) {n0 : Nat} {h : Heap} (x : Int64) (hx0 : 0 ≤ x.toInt) (h1 : 1048576 ≤ x.toInt) (h2 : x.toInt < 2097152) : WP l B1 Z n0 (fun v h' => h = h' ∧ ∃ r : Int32, v = some (.int r) ∧ ((4611686018427387904 ≤ x.toInt ∧ r.toInt = 65535) ∨ (x.toInt < 4611686018427387904 ∧ r.toInt ≤ 54272 ∧ 0 ≤ r.toInt ∧ x.toInt ≤ valF r.toInt ∧ (r.toInt = 0 ∨ valF (r.toInt - 1) < x.toInt)))) h 0 0 27 #[.val (.long x), .second, .val (.int (10 : Int32)), .unset, .unset] [] := by
  have k32_10 : (10 : Int32).toInt = 10 := by decide
  have k32_63 : (63 : Int32).toInt = 63 := by decide
  have k32_10240 : (10240 : Int32).toInt = 10240 := by decide
  have k64_1 : (1 : Int64).toInt = 1 := by decide
  have k64_1023 : (1023 : Int64).toInt = 1023 := by decide
  have k64_1024 : (1024 : Int64).toInt = 1024 := by decide
  have k64_10240 : (10240 : Int64).toInt = 10240 := by decide
  refine WP.lloadN d1_27 rfl (pc' := 28) rfl ?_
  refine WP.lconst1 d1_28 (pc' := 29) rfl ?_
  refine WP.iloadN d1_29 rfl (pc' := 30) rfl ?_
  refine WP.lshl d1_30 (pc' := 31) rfl ?_
  rw [show ((1 : Int64) <<< ((10 : Int32) &&& 63).toInt64) = (1024 : Int64) from by decide]
  refine WP.lconst1 d1_31 (pc' := 32) rfl ?_
  refine WP.lsub d1_32 (pc' := 33) rfl ?_
  rw [show (((1024 : Int64) - (1 : Int64)) : Int64) = (1023 : Int64) from by decide]
  refine WP.land d1_33 (pc' := 34) rfl ?_
  refine WP.lneg d1_34 (pc' := 35) rfl ?_
  refine WP.bipush d1_35 (z := (63 : Int32)) rfl (pc' := 37) rfl ?_
  refine WP.lushr d1_37 (pc' := 38) rfl ?_
  obtain ⟨u, e_u⟩ : ∃ z, z = (ushrL (-(x &&& (1023 : Int64))) (63 : Int32)) := ⟨_, rfl⟩
  rw [← e_u]
  refine WP.lstoreN d1_38 (pc' := 39) rfl (ls' := #[.val (.long x), .second, .val (.int (10 : Int32)), .val (.long u), .second]) rfl ?_
  have f1 : (x &&& (1023 : Int64)).toInt = x.toInt % 1024 := own_maskL _ _ 10 _ (by decide) (by decide) (by decide)
  have f2 : (-(x &&& (1023 : Int64))).toInt = -(x.toInt % 1024) := by have g1 := c_lneg (x &&& (1023 : Int64)); have g2 := own_r64 (-(x &&& (1023 : Int64))); omega
  have f3 : u.toInt = ((-(x &&& (1023 : Int64))).toInt % 18446744073709551616) / 9223372036854775808 := by rw [e_u]; exact c_lushr _ 63 63 (by decide) (by decide)
  have f4 : (x.toInt % 1024 = 0 ∧ u.toInt = 0) ∨ (0 < x.toInt % 1024 ∧ u.toInt = 1) := by omega
  clear f1 f2 f3
  refine WP.iloadN d1_39 rfl (pc' := 40) rfl ?_
  refine WP.bipush d1_40 (z := (10 : Int32)) rfl (pc' := 42) rfl ?_
  refine WP.ishl d1_42 (pc' := 43) rfl ?_
  rw [show ((10 : Int32) <<< ((10 : Int32) &&& 31)) = (10240 : Int32) from by decide]
  refine WP.i2l d1_43 (pc' := 44) rfl ?_
  rw [show (10240 : Int32).toInt64 = (10240 : Int64) from by decide]
  refine WP.lloadN d1_44 rfl (pc' := 45) rfl ?_
  refine WP.iloadN d1_45 rfl (pc' := 46) rfl ?_
  refine WP.lushr d1_46 (pc' := 47) rfl ?_
  refine WP.ladd d1_47 (pc' := 48) rfl ?_
  refine WP.lloadN d1_48 rfl (pc' := 49) rfl ?_
  refine WP.ladd d1_49 (pc' := 50) rfl ?_
  have g1 : (ushrL x (10 : Int32)).toInt = x.toInt / 1024 := by have q : (ushrL x (10 : Int32)).toInt = (x.toInt % 18446744073709551616) / 1024 := c_lushr x (10 : Int32) 10 (by decide) (by decide); omega
  have g2 : ((10240 : Int64) + (ushrL x (10 : Int32))).toInt = 10240 + x.toInt / 1024 := by rw [own_ladd] <;> omega
  have g3 : (((10240 : Int64) + (ushrL x (10 : Int32))) + u).toInt = 10240 + x.toInt / 1024 + u.toInt := by rw [own_ladd] <;> omega
  have g4 := c_l2i (((10240 : Int64) + (ushrL x (10 : Int32))) + u)
  have g5 := own_r32 (((10240 : Int64) + (ushrL x (10 : Int32))) + u).toInt32
  have g6 := c_i2c (((10240 : Int64) + (ushrL x (10 : Int32))) + u).toInt32
  have g7 := c_i2c ((((10240 : Int64) + (ushrL x (10 : Int32))) + u).toInt32.toUInt32.toUInt16.toUInt32.toInt32)
  refine WP.l2i d1_50 (pc' := 51) rfl ?_
  refine WP.i2c d1_51 (pc' := 52) rfl ?_
  exact WP.retN d1_52 (t := .char) rfl (by simp) (by decide) (by decide) ⟨rfl, _, rfl, Or.inr ⟨by omega, by have e9 : (nar .char ((((10240 : Int64) + (ushrL x (10 : Int32))) + u).toInt32.toUInt32.toUInt16.toUInt32.toInt32)).toInt = 10240 + x.toInt / 1024 + u.toInt := (show ((((10240 : Int64) + (ushrL x (10 : Int32))) + u).toInt32.toUInt32.toUInt16.toUInt32.toInt32.toUInt32.toUInt16.toUInt32.toInt32).toInt = _ by omega); rw [e9]; exact vk_10 x.toInt (x.toInt / 1024) (x.toInt % 1024) u.toInt _ (by omega) (by omega) f4 (by omega) rfl⟩⟩
theorem run_27_11 {l : Launch} {Z : State} {a0 : Array Value} (hw : HW Z a0) {n0 : Nat} {h : Heap} (x : Int64) (hx0 : 0 ≤ x.toInt) (h1 : 2097152 ≤ x.toInt) (h2 : x.toInt < 4194304) : WP l B1 Z n0 (fun v h' => h = h' ∧ ∃ r : Int32, v = some (.int r) ∧ ((4611686018427387904 ≤ x.toInt ∧ r.toInt = 65535) ∨ (x.toInt < 4611686018427387904 ∧ r.toInt ≤ 54272 ∧ 0 ≤ r.toInt ∧ x.toInt ≤ valF r.toInt ∧ (r.toInt = 0 ∨ valF (r.toInt - 1) < x.toInt)))) h 0 0 27 #[.val (.long x), .second, .val (.int (11 : Int32)), .unset, .unset] [] := by
  have k32_10 : (10 : Int32).toInt = 10 := by decide
  have k32_11 : (11 : Int32).toInt = 11 := by decide
  have k32_63 : (63 : Int32).toInt = 63 := by decide
  have k32_11264 : (11264 : Int32).toInt = 11264 := by decide
  have k64_1 : (1 : Int64).toInt = 1 := by decide
  have k64_2047 : (2047 : Int64).toInt = 2047 := by decide
  have k64_2048 : (2048 : Int64).toInt = 2048 := by decide
  have k64_11264 : (11264 : Int64).toInt = 11264 := by decide
  refine WP.lloadN d1_27 rfl (pc' := 28) rfl ?_
  refine WP.lconst1 d1_28 (pc' := 29) rfl ?_
  refine WP.iloadN d1_29 rfl (pc' := 30) rfl ?_
  refine WP.lshl d1_30 (pc' := 31) rfl ?_
  rw [show ((1 : Int64) <<< ((11 : Int32) &&& 63).toInt64) = (2048 : Int64) from by decide]
  refine WP.lconst1 d1_31 (pc' := 32) rfl ?_
  refine WP.lsub d1_32 (pc' := 33) rfl ?_
  rw [show (((2048 : Int64) - (1 : Int64)) : Int64) = (2047 : Int64) from by decide]
  refine WP.land d1_33 (pc' := 34) rfl ?_
  refine WP.lneg d1_34 (pc' := 35) rfl ?_
  refine WP.bipush d1_35 (z := (63 : Int32)) rfl (pc' := 37) rfl ?_
  refine WP.lushr d1_37 (pc' := 38) rfl ?_
  obtain ⟨u, e_u⟩ : ∃ z, z = (ushrL (-(x &&& (2047 : Int64))) (63 : Int32)) := ⟨_, rfl⟩
  rw [← e_u]
  refine WP.lstoreN d1_38 (pc' := 39) rfl (ls' := #[.val (.long x), .second, .val (.int (11 : Int32)), .val (.long u), .second]) rfl ?_
  have f1 : (x &&& (2047 : Int64)).toInt = x.toInt % 2048 := own_maskL _ _ 11 _ (by decide) (by decide) (by decide)
  have f2 : (-(x &&& (2047 : Int64))).toInt = -(x.toInt % 2048) := by have g1 := c_lneg (x &&& (2047 : Int64)); have g2 := own_r64 (-(x &&& (2047 : Int64))); omega
  have f3 : u.toInt = ((-(x &&& (2047 : Int64))).toInt % 18446744073709551616) / 9223372036854775808 := by rw [e_u]; exact c_lushr _ 63 63 (by decide) (by decide)
  have f4 : (x.toInt % 2048 = 0 ∧ u.toInt = 0) ∨ (0 < x.toInt % 2048 ∧ u.toInt = 1) := by omega
  clear f1 f2 f3
  refine WP.iloadN d1_39 rfl (pc' := 40) rfl ?_
  refine WP.bipush d1_40 (z := (10 : Int32)) rfl (pc' := 42) rfl ?_
  refine WP.ishl d1_42 (pc' := 43) rfl ?_
  rw [show ((11 : Int32) <<< ((10 : Int32) &&& 31)) = (11264 : Int32) from by decide]
  refine WP.i2l d1_43 (pc' := 44) rfl ?_
  rw [show (11264 : Int32).toInt64 = (11264 : Int64) from by decide]
  refine WP.lloadN d1_44 rfl (pc' := 45) rfl ?_
  refine WP.iloadN d1_45 rfl (pc' := 46) rfl ?_
  refine WP.lushr d1_46 (pc' := 47) rfl ?_
  refine WP.ladd d1_47 (pc' := 48) rfl ?_
  refine WP.lloadN d1_48 rfl (pc' := 49) rfl ?_
  refine WP.ladd d1_49 (pc' := 50) rfl ?_
  have g1 : (ushrL x (11 : Int32)).toInt = x.toInt / 2048 := by have q : (ushrL x (11 : Int32)).toInt = (x.toInt % 18446744073709551616) / 2048 := c_lushr x (11 : Int32) 11 (by decide) (by decide); omega
  have g2 : ((11264 : Int64) + (ushrL x (11 : Int32))).toInt = 11264 + x.toInt / 2048 := by rw [own_ladd] <;> omega
  have g3 : (((11264 : Int64) + (ushrL x (11 : Int32))) + u).toInt = 11264 + x.toInt / 2048 + u.toInt := by rw [own_ladd] <;> omega
  have g4 := c_l2i (((11264 : Int64) + (ushrL x (11 : Int32))) + u)
  have g5 := own_r32 (((11264 : Int64) + (ushrL x (11 : Int32))) + u).toInt32
  have g6 := c_i2c (((11264 : Int64) + (ushrL x (11 : Int32))) + u).toInt32
  have g7 := c_i2c ((((11264 : Int64) + (ushrL x (11 : Int32))) + u).toInt32.toUInt32.toUInt16.toUInt32.toInt32)
  refine WP.l2i d1_50 (pc' := 51) rfl ?_
  refine WP.i2c d1_51 (pc' := 52) rfl ?_
  exact WP.retN d1_52 (t := .char) rfl (by simp) (by decide) (by decide) ⟨rfl, _, rfl, Or.inr ⟨by omega, by have e9 : (nar .char ((((11264 : Int64) + (ushrL x (11 : Int32))) + u).toInt32.toUInt32.toUInt16.toUInt32.toInt32)).toInt = 11264 + x.toInt / 2048 + u.toInt := (show ((((11264 : Int64) + (ushrL x (11 : Int32))) + u).toInt32.toUInt32.toUInt16.toUInt32.toInt32.toUInt32.toUInt16.toUInt32.toInt32).toInt = _ by omega); rw [e9]; exact vk_11 x.toInt (x.toInt / 2048) (x.toInt % 2048) u.toInt _ (by omega) (by omega) f4 (by omega) rfl⟩⟩
theorem run_27_12 {l : Launch} {Z : State} {a0 : Array Value} (hw : HW Z a0) {n0 : Nat} {h : Heap} (x : Int64) (hx0 : 0 ≤ x.toInt) (h1 : 4194304 ≤ x.toInt) (h2 : x.toInt < 8388608) : WP l B1 Z n0 (fun v h' => h = h' ∧ ∃ r : Int32, v = some (.int r) ∧ ((4611686018427387904 ≤ x.toInt ∧ r.toInt = 65535) ∨ (x.toInt < 4611686018427387904 ∧ r.toInt ≤ 54272 ∧ 0 ≤ r.toInt ∧ x.toInt ≤ valF r.toInt ∧ (r.toInt = 0 ∨ valF (r.toInt - 1) < x.toInt)))) h 0 0 27 #[.val (.long x), .second, .val (.int (12 : Int32)), .unset, .unset] [] := by
  have k32_10 : (10 : Int32).toInt = 10 := by decide
  have k32_12 : (12 : Int32).toInt = 12 := by decide
  have k32_63 : (63 : Int32).toInt = 63 := by decide
  have k32_12288 : (12288 : Int32).toInt = 12288 := by decide
  have k64_1 : (1 : Int64).toInt = 1 := by decide
  have k64_4095 : (4095 : Int64).toInt = 4095 := by decide
  have k64_4096 : (4096 : Int64).toInt = 4096 := by decide
  have k64_12288 : (12288 : Int64).toInt = 12288 := by decide
  refine WP.lloadN d1_27 rfl (pc' := 28) rfl ?_
  refine WP.lconst1 d1_28 (pc' := 29) rfl ?_
  refine WP.iloadN d1_29 rfl (pc' := 30) rfl ?_
  refine WP.lshl d1_30 (pc' := 31) rfl ?_
  rw [show ((1 : Int64) <<< ((12 : Int32) &&& 63).toInt64) = (4096 : Int64) from by decide]
  refine WP.lconst1 d1_31 (pc' := 32) rfl ?_
  refine WP.lsub d1_32 (pc' := 33) rfl ?_
  rw [show (((4096 : Int64) - (1 : Int64)) : Int64) = (4095 : Int64) from by decide]
  refine WP.land d1_33 (pc' := 34) rfl ?_
  refine WP.lneg d1_34 (pc' := 35) rfl ?_
  refine WP.bipush d1_35 (z := (63 : Int32)) rfl (pc' := 37) rfl ?_
  refine WP.lushr d1_37 (pc' := 38) rfl ?_
  obtain ⟨u, e_u⟩ : ∃ z, z = (ushrL (-(x &&& (4095 : Int64))) (63 : Int32)) := ⟨_, rfl⟩
  rw [← e_u]
  refine WP.lstoreN d1_38 (pc' := 39) rfl (ls' := #[.val (.long x), .second, .val (.int (12 : Int32)), .val (.long u), .second]) rfl ?_
  have f1 : (x &&& (4095 : Int64)).toInt = x.toInt % 4096 := own_maskL _ _ 12 _ (by decide) (by decide) (by decide)
  have f2 : (-(x &&& (4095 : Int64))).toInt = -(x.toInt % 4096) := by have g1 := c_lneg (x &&& (4095 : Int64)); have g2 := own_r64 (-(x &&& (4095 : Int64))); omega
  have f3 : u.toInt = ((-(x &&& (4095 : Int64))).toInt % 18446744073709551616) / 9223372036854775808 := by rw [e_u]; exact c_lushr _ 63 63 (by decide) (by decide)
  have f4 : (x.toInt % 4096 = 0 ∧ u.toInt = 0) ∨ (0 < x.toInt % 4096 ∧ u.toInt = 1) := by omega
  clear f1 f2 f3
  refine WP.iloadN d1_39 rfl (pc' := 40) rfl ?_
  refine WP.bipush d1_40 (z := (10 : Int32)) rfl (pc' := 42) rfl ?_
  refine WP.ishl d1_42 (pc' := 43) rfl ?_
  rw [show ((12 : Int32) <<< ((10 : Int32) &&& 31)) = (12288 : Int32) from by decide]
  refine WP.i2l d1_43 (pc' := 44) rfl ?_
  rw [show (12288 : Int32).toInt64 = (12288 : Int64) from by decide]
  refine WP.lloadN d1_44 rfl (pc' := 45) rfl ?_
  refine WP.iloadN d1_45 rfl (pc' := 46) rfl ?_
  refine WP.lushr d1_46 (pc' := 47) rfl ?_
  refine WP.ladd d1_47 (pc' := 48) rfl ?_
  refine WP.lloadN d1_48 rfl (pc' := 49) rfl ?_
  refine WP.ladd d1_49 (pc' := 50) rfl ?_
  have g1 : (ushrL x (12 : Int32)).toInt = x.toInt / 4096 := by have q : (ushrL x (12 : Int32)).toInt = (x.toInt % 18446744073709551616) / 4096 := c_lushr x (12 : Int32) 12 (by decide) (by decide); omega
  have g2 : ((12288 : Int64) + (ushrL x (12 : Int32))).toInt = 12288 + x.toInt / 4096 := by rw [own_ladd] <;> omega
  have g3 : (((12288 : Int64) + (ushrL x (12 : Int32))) + u).toInt = 12288 + x.toInt / 4096 + u.toInt := by rw [own_ladd] <;> omega
  have g4 := c_l2i (((12288 : Int64) + (ushrL x (12 : Int32))) + u)
  have g5 := own_r32 (((12288 : Int64) + (ushrL x (12 : Int32))) + u).toInt32
  have g6 := c_i2c (((12288 : Int64) + (ushrL x (12 : Int32))) + u).toInt32
  have g7 := c_i2c ((((12288 : Int64) + (ushrL x (12 : Int32))) + u).toInt32.toUInt32.toUInt16.toUInt32.toInt32)
  refine WP.l2i d1_50 (pc' := 51) rfl ?_
  refine WP.i2c d1_51 (pc' := 52) rfl ?_
  exact WP.retN d1_52 (t := .char) rfl (by simp) (by decide) (by decide) ⟨rfl, _, rfl, Or.inr ⟨by omega, by have e9 : (nar .char ((((12288 : Int64) + (ushrL x (12 : Int32))) + u).toInt32.toUInt32.toUInt16.toUInt32.toInt32)).toInt = 12288 + x.toInt / 4096 + u.toInt := (show ((((12288 : Int64) + (ushrL x (12 : Int32))) + u).toInt32.toUInt32.toUInt16.toUInt32.toInt32.toUInt32.toUInt16.toUInt32.toInt32).toInt = _ by omega); rw [e9]; exact vk_12 x.toInt (x.toInt / 4096) (x.toInt % 4096) u.toInt _ (by omega) (by omega) f4 (by omega) rfl⟩⟩
theorem run_27_13 {l : Launch} {Z : State} {a0 : Array Value} (hw : HW Z a0) {n0 : Nat} {h : Heap} (x : Int64) (hx0 : 0 ≤ x.toInt) (h1 : 8388608 ≤ x.toInt) (h2 : x.toInt < 16777216) : WP l B1 Z n0 (fun v h' => h = h' ∧ ∃ r : Int32, v = some (.int r) ∧ ((4611686018427387904 ≤ x.toInt ∧ r.toInt = 65535) ∨ (x.toInt < 4611686018427387904 ∧ r.toInt ≤ 54272 ∧ 0 ≤ r.toInt ∧ x.toInt ≤ valF r.toInt ∧ (r.toInt = 0 ∨ valF (r.toInt - 1) < x.toInt)))) h 0 0 27 #[.val (.long x), .second, .val (.int (13 : Int32)), .unset, .unset] [] := by
  have k32_10 : (10 : Int32).toInt = 10 := by decide
  have k32_13 : (13 : Int32).toInt = 13 := by decide
  have k32_63 : (63 : Int32).toInt = 63 := by decide
  have k32_13312 : (13312 : Int32).toInt = 13312 := by decide
  have k64_1 : (1 : Int64).toInt = 1 := by decide
  have k64_8191 : (8191 : Int64).toInt = 8191 := by decide
  have k64_8192 : (8192 : Int64).toInt = 8192 := by decide
  have k64_13312 : (13312 : Int64).toInt = 13312 := by decide
  refine WP.lloadN d1_27 rfl (pc' := 28) rfl ?_
  refine WP.lconst1 d1_28 (pc' := 29) rfl ?_
  refine WP.iloadN d1_29 rfl (pc' := 30) rfl ?_
  refine WP.lshl d1_30 (pc' := 31) rfl ?_
  rw [show ((1 : Int64) <<< ((13 : Int32) &&& 63).toInt64) = (8192 : Int64) from by decide]
  refine WP.lconst1 d1_31 (pc' := 32) rfl ?_
  refine WP.lsub d1_32 (pc' := 33) rfl ?_
  rw [show (((8192 : Int64) - (1 : Int64)) : Int64) = (8191 : Int64) from by decide]
  refine WP.land d1_33 (pc' := 34) rfl ?_
  refine WP.lneg d1_34 (pc' := 35) rfl ?_
  refine WP.bipush d1_35 (z := (63 : Int32)) rfl (pc' := 37) rfl ?_
  refine WP.lushr d1_37 (pc' := 38) rfl ?_
  obtain ⟨u, e_u⟩ : ∃ z, z = (ushrL (-(x &&& (8191 : Int64))) (63 : Int32)) := ⟨_, rfl⟩
  rw [← e_u]
  refine WP.lstoreN d1_38 (pc' := 39) rfl (ls' := #[.val (.long x), .second, .val (.int (13 : Int32)), .val (.long u), .second]) rfl ?_
  have f1 : (x &&& (8191 : Int64)).toInt = x.toInt % 8192 := own_maskL _ _ 13 _ (by decide) (by decide) (by decide)
  have f2 : (-(x &&& (8191 : Int64))).toInt = -(x.toInt % 8192) := by have g1 := c_lneg (x &&& (8191 : Int64)); have g2 := own_r64 (-(x &&& (8191 : Int64))); omega
  have f3 : u.toInt = ((-(x &&& (8191 : Int64))).toInt % 18446744073709551616) / 9223372036854775808 := by rw [e_u]; exact c_lushr _ 63 63 (by decide) (by decide)
  have f4 : (x.toInt % 8192 = 0 ∧ u.toInt = 0) ∨ (0 < x.toInt % 8192 ∧ u.toInt = 1) := by omega
  clear f1 f2 f3
  refine WP.iloadN d1_39 rfl (pc' := 40) rfl ?_
  refine WP.bipush d1_40 (z := (10 : Int32)) rfl (pc' := 42) rfl ?_
  refine WP.ishl d1_42 (pc' := 43) rfl ?_
  rw [show ((13 : Int32) <<< ((10 : Int32) &&& 31)) = (13312 : Int32) from by decide]
  refine WP.i2l d1_43 (pc' := 44) rfl ?_
  rw [show (13312 : Int32).toInt64 = (13312 : Int64) from by decide]
  refine WP.lloadN d1_44 rfl (pc' := 45) rfl ?_
  refine WP.iloadN d1_45 rfl (pc' := 46) rfl ?_
  refine WP.lushr d1_46 (pc' := 47) rfl ?_
  refine WP.ladd d1_47 (pc' := 48) rfl ?_
  refine WP.lloadN d1_48 rfl (pc' := 49) rfl ?_
  refine WP.ladd d1_49 (pc' := 50) rfl ?_
  have g1 : (ushrL x (13 : Int32)).toInt = x.toInt / 8192 := by have q : (ushrL x (13 : Int32)).toInt = (x.toInt % 18446744073709551616) / 8192 := c_lushr x (13 : Int32) 13 (by decide) (by decide); omega
  have g2 : ((13312 : Int64) + (ushrL x (13 : Int32))).toInt = 13312 + x.toInt / 8192 := by rw [own_ladd] <;> omega
  have g3 : (((13312 : Int64) + (ushrL x (13 : Int32))) + u).toInt = 13312 + x.toInt / 8192 + u.toInt := by rw [own_ladd] <;> omega
  have g4 := c_l2i (((13312 : Int64) + (ushrL x (13 : Int32))) + u)
  have g5 := own_r32 (((13312 : Int64) + (ushrL x (13 : Int32))) + u).toInt32
  have g6 := c_i2c (((13312 : Int64) + (ushrL x (13 : Int32))) + u).toInt32
  have g7 := c_i2c ((((13312 : Int64) + (ushrL x (13 : Int32))) + u).toInt32.toUInt32.toUInt16.toUInt32.toInt32)
  refine WP.l2i d1_50 (pc' := 51) rfl ?_
  refine WP.i2c d1_51 (pc' := 52) rfl ?_
  exact WP.retN d1_52 (t := .char) rfl (by simp) (by decide) (by decide) ⟨rfl, _, rfl, Or.inr ⟨by omega, by have e9 : (nar .char ((((13312 : Int64) + (ushrL x (13 : Int32))) + u).toInt32.toUInt32.toUInt16.toUInt32.toInt32)).toInt = 13312 + x.toInt / 8192 + u.toInt := (show ((((13312 : Int64) + (ushrL x (13 : Int32))) + u).toInt32.toUInt32.toUInt16.toUInt32.toInt32.toUInt32.toUInt16.toUInt32.toInt32).toInt = _ by omega); rw [e9]; exact vk_13 x.toInt (x.toInt / 8192) (x.toInt % 8192) u.toInt _ (by omega) (by omega) f4 (by omega) rfl⟩⟩
theorem run_27_14 {l : Launch} {Z : State} {a0 : Array Value} (hw : HW Z a0) {n0 : Nat} {h : Heap} (x : Int64) (hx0 : 0 ≤ x.toInt) (h1 : 16777216 ≤ x.toInt) (h2 : x.toInt < 33554432) : WP l B1 Z n0 (fun v h' => h = h' ∧ ∃ r : Int32, v = some (.int r) ∧ ((4611686018427387904 ≤ x.toInt ∧ r.toInt = 65535) ∨ (x.toInt < 4611686018427387904 ∧ r.toInt ≤ 54272 ∧ 0 ≤ r.toInt ∧ x.toInt ≤ valF r.toInt ∧ (r.toInt = 0 ∨ valF (r.toInt - 1) < x.toInt)))) h 0 0 27 #[.val (.long x), .second, .val (.int (14 : Int32)), .unset, .unset] [] := by
  have k32_10 : (10 : Int32).toInt = 10 := by decide
  have k32_14 : (14 : Int32).toInt = 14 := by decide
  have k32_63 : (63 : Int32).toInt = 63 := by decide
  have k32_14336 : (14336 : Int32).toInt = 14336 := by decide
  have k64_1 : (1 : Int64).toInt = 1 := by decide
  have k64_14336 : (14336 : Int64).toInt = 14336 := by decide
  have k64_16383 : (16383 : Int64).toInt = 16383 := by decide
  have k64_16384 : (16384 : Int64).toInt = 16384 := by decide
  refine WP.lloadN d1_27 rfl (pc' := 28) rfl ?_
  refine WP.lconst1 d1_28 (pc' := 29) rfl ?_
  refine WP.iloadN d1_29 rfl (pc' := 30) rfl ?_
  refine WP.lshl d1_30 (pc' := 31) rfl ?_
  rw [show ((1 : Int64) <<< ((14 : Int32) &&& 63).toInt64) = (16384 : Int64) from by decide]
  refine WP.lconst1 d1_31 (pc' := 32) rfl ?_
  refine WP.lsub d1_32 (pc' := 33) rfl ?_
  rw [show (((16384 : Int64) - (1 : Int64)) : Int64) = (16383 : Int64) from by decide]
  refine WP.land d1_33 (pc' := 34) rfl ?_
  refine WP.lneg d1_34 (pc' := 35) rfl ?_
  refine WP.bipush d1_35 (z := (63 : Int32)) rfl (pc' := 37) rfl ?_
  refine WP.lushr d1_37 (pc' := 38) rfl ?_
  obtain ⟨u, e_u⟩ : ∃ z, z = (ushrL (-(x &&& (16383 : Int64))) (63 : Int32)) := ⟨_, rfl⟩
  rw [← e_u]
  refine WP.lstoreN d1_38 (pc' := 39) rfl (ls' := #[.val (.long x), .second, .val (.int (14 : Int32)), .val (.long u), .second]) rfl ?_
  have f1 : (x &&& (16383 : Int64)).toInt = x.toInt % 16384 := own_maskL _ _ 14 _ (by decide) (by decide) (by decide)
  have f2 : (-(x &&& (16383 : Int64))).toInt = -(x.toInt % 16384) := by have g1 := c_lneg (x &&& (16383 : Int64)); have g2 := own_r64 (-(x &&& (16383 : Int64))); omega
  have f3 : u.toInt = ((-(x &&& (16383 : Int64))).toInt % 18446744073709551616) / 9223372036854775808 := by rw [e_u]; exact c_lushr _ 63 63 (by decide) (by decide)
  have f4 : (x.toInt % 16384 = 0 ∧ u.toInt = 0) ∨ (0 < x.toInt % 16384 ∧ u.toInt = 1) := by omega
  clear f1 f2 f3
  refine WP.iloadN d1_39 rfl (pc' := 40) rfl ?_
  refine WP.bipush d1_40 (z := (10 : Int32)) rfl (pc' := 42) rfl ?_
  refine WP.ishl d1_42 (pc' := 43) rfl ?_
  rw [show ((14 : Int32) <<< ((10 : Int32) &&& 31)) = (14336 : Int32) from by decide]
  refine WP.i2l d1_43 (pc' := 44) rfl ?_
  rw [show (14336 : Int32).toInt64 = (14336 : Int64) from by decide]
  refine WP.lloadN d1_44 rfl (pc' := 45) rfl ?_
  refine WP.iloadN d1_45 rfl (pc' := 46) rfl ?_
  refine WP.lushr d1_46 (pc' := 47) rfl ?_
  refine WP.ladd d1_47 (pc' := 48) rfl ?_
  refine WP.lloadN d1_48 rfl (pc' := 49) rfl ?_
  refine WP.ladd d1_49 (pc' := 50) rfl ?_
  have g1 : (ushrL x (14 : Int32)).toInt = x.toInt / 16384 := by have q : (ushrL x (14 : Int32)).toInt = (x.toInt % 18446744073709551616) / 16384 := c_lushr x (14 : Int32) 14 (by decide) (by decide); omega
  have g2 : ((14336 : Int64) + (ushrL x (14 : Int32))).toInt = 14336 + x.toInt / 16384 := by rw [own_ladd] <;> omega
  have g3 : (((14336 : Int64) + (ushrL x (14 : Int32))) + u).toInt = 14336 + x.toInt / 16384 + u.toInt := by rw [own_ladd] <;> omega
  have g4 := c_l2i (((14336 : Int64) + (ushrL x (14 : Int32))) + u)
  have g5 := own_r32 (((14336 : Int64) + (ushrL x (14 : Int32))) + u).toInt32
  have g6 := c_i2c (((14336 : Int64) + (ushrL x (14 : Int32))) + u).toInt32
  have g7 := c_i2c ((((14336 : Int64) + (ushrL x (14 : Int32))) + u).toInt32.toUInt32.toUInt16.toUInt32.toInt32)
  refine WP.l2i d1_50 (pc' := 51) rfl ?_
  refine WP.i2c d1_51 (pc' := 52) rfl ?_
  exact WP.retN d1_52 (t := .char) rfl (by simp) (by decide) (by decide) ⟨rfl, _, rfl, Or.inr ⟨by omega, by have e9 : (nar .char ((((14336 : Int64) + (ushrL x (14 : Int32))) + u).toInt32.toUInt32.toUInt16.toUInt32.toInt32)).toInt = 14336 + x.toInt / 16384 + u.toInt := (show ((((14336 : Int64) + (ushrL x (14 : Int32))) + u).toInt32.toUInt32.toUInt16.toUInt32.toInt32.toUInt32.toUInt16.toUInt32.toInt32).toInt = _ by omega); rw [e9]; exact vk_14 x.toInt (x.toInt / 16384) (x.toInt % 16384) u.toInt _ (by omega) (by omega) f4 (by omega) rfl⟩⟩
theorem run_27_15 {l : Launch} {Z : State} {a0 : Array Value} (hw : HW Z a0) {n0 : Nat} {h : Heap} (x : Int64) (hx0 : 0 ≤ x.toInt) (h1 : 33554432 ≤ x.toInt) (h2 : x.toInt < 67108864) : WP l B1 Z n0 (fun v h' => h = h' ∧ ∃ r : Int32, v = some (.int r) ∧ ((4611686018427387904 ≤ x.toInt ∧ r.toInt = 65535) ∨ (x.toInt < 4611686018427387904 ∧ r.toInt ≤ 54272 ∧ 0 ≤ r.toInt ∧ x.toInt ≤ valF r.toInt ∧ (r.toInt = 0 ∨ valF (r.toInt - 1) < x.toInt)))) h 0 0 27 #[.val (.long x), .second, .val (.int (15 : Int32)), .unset, .unset] [] := by
  have k32_10 : (10 : Int32).toInt = 10 := by decide
  have k32_15 : (15 : Int32).toInt = 15 := by decide
  have k32_63 : (63 : Int32).toInt = 63 := by decide
  have k32_15360 : (15360 : Int32).toInt = 15360 := by decide
  have k64_1 : (1 : Int64).toInt = 1 := by decide
  have k64_15360 : (15360 : Int64).toInt = 15360 := by decide
  have k64_32767 : (32767 : Int64).toInt = 32767 := by decide
  have k64_32768 : (32768 : Int64).toInt = 32768 := by decide
  refine WP.lloadN d1_27 rfl (pc' := 28) rfl ?_
  refine WP.lconst1 d1_28 (pc' := 29) rfl ?_
  refine WP.iloadN d1_29 rfl (pc' := 30) rfl ?_
  refine WP.lshl d1_30 (pc' := 31) rfl ?_
  rw [show ((1 : Int64) <<< ((15 : Int32) &&& 63).toInt64) = (32768 : Int64) from by decide]
  refine WP.lconst1 d1_31 (pc' := 32) rfl ?_
  refine WP.lsub d1_32 (pc' := 33) rfl ?_
  rw [show (((32768 : Int64) - (1 : Int64)) : Int64) = (32767 : Int64) from by decide]
  refine WP.land d1_33 (pc' := 34) rfl ?_
  refine WP.lneg d1_34 (pc' := 35) rfl ?_
  refine WP.bipush d1_35 (z := (63 : Int32)) rfl (pc' := 37) rfl ?_
  refine WP.lushr d1_37 (pc' := 38) rfl ?_
  obtain ⟨u, e_u⟩ : ∃ z, z = (ushrL (-(x &&& (32767 : Int64))) (63 : Int32)) := ⟨_, rfl⟩
  rw [← e_u]
  refine WP.lstoreN d1_38 (pc' := 39) rfl (ls' := #[.val (.long x), .second, .val (.int (15 : Int32)), .val (.long u), .second]) rfl ?_
  have f1 : (x &&& (32767 : Int64)).toInt = x.toInt % 32768 := own_maskL _ _ 15 _ (by decide) (by decide) (by decide)
  have f2 : (-(x &&& (32767 : Int64))).toInt = -(x.toInt % 32768) := by have g1 := c_lneg (x &&& (32767 : Int64)); have g2 := own_r64 (-(x &&& (32767 : Int64))); omega
  have f3 : u.toInt = ((-(x &&& (32767 : Int64))).toInt % 18446744073709551616) / 9223372036854775808 := by rw [e_u]; exact c_lushr _ 63 63 (by decide) (by decide)
  have f4 : (x.toInt % 32768 = 0 ∧ u.toInt = 0) ∨ (0 < x.toInt % 32768 ∧ u.toInt = 1) := by omega
  clear f1 f2 f3
  refine WP.iloadN d1_39 rfl (pc' := 40) rfl ?_
  refine WP.bipush d1_40 (z := (10 : Int32)) rfl (pc' := 42) rfl ?_
  refine WP.ishl d1_42 (pc' := 43) rfl ?_
  rw [show ((15 : Int32) <<< ((10 : Int32) &&& 31)) = (15360 : Int32) from by decide]
  refine WP.i2l d1_43 (pc' := 44) rfl ?_
  rw [show (15360 : Int32).toInt64 = (15360 : Int64) from by decide]
  refine WP.lloadN d1_44 rfl (pc' := 45) rfl ?_
  refine WP.iloadN d1_45 rfl (pc' := 46) rfl ?_
  refine WP.lushr d1_46 (pc' := 47) rfl ?_
  refine WP.ladd d1_47 (pc' := 48) rfl ?_
  refine WP.lloadN d1_48 rfl (pc' := 49) rfl ?_
  refine WP.ladd d1_49 (pc' := 50) rfl ?_
  have g1 : (ushrL x (15 : Int32)).toInt = x.toInt / 32768 := by have q : (ushrL x (15 : Int32)).toInt = (x.toInt % 18446744073709551616) / 32768 := c_lushr x (15 : Int32) 15 (by decide) (by decide); omega
  have g2 : ((15360 : Int64) + (ushrL x (15 : Int32))).toInt = 15360 + x.toInt / 32768 := by rw [own_ladd] <;> omega
  have g3 : (((15360 : Int64) + (ushrL x (15 : Int32))) + u).toInt = 15360 + x.toInt / 32768 + u.toInt := by rw [own_ladd] <;> omega
  have g4 := c_l2i (((15360 : Int64) + (ushrL x (15 : Int32))) + u)
  have g5 := own_r32 (((15360 : Int64) + (ushrL x (15 : Int32))) + u).toInt32
  have g6 := c_i2c (((15360 : Int64) + (ushrL x (15 : Int32))) + u).toInt32
  have g7 := c_i2c ((((15360 : Int64) + (ushrL x (15 : Int32))) + u).toInt32.toUInt32.toUInt16.toUInt32.toInt32)
  refine WP.l2i d1_50 (pc' := 51) rfl ?_
  refine WP.i2c d1_51 (pc' := 52) rfl ?_
  exact WP.retN d1_52 (t := .char) rfl (by simp) (by decide) (by decide) ⟨rfl, _, rfl, Or.inr ⟨by omega, by have e9 : (nar .char ((((15360 : Int64) + (ushrL x (15 : Int32))) + u).toInt32.toUInt32.toUInt16.toUInt32.toInt32)).toInt = 15360 + x.toInt / 32768 + u.toInt := (show ((((15360 : Int64) + (ushrL x (15 : Int32))) + u).toInt32.toUInt32.toUInt16.toUInt32.toInt32.toUInt32.toUInt16.toUInt32.toInt32).toInt = _ by omega); rw [e9]; exact vk_15 x.toInt (x.toInt / 32768) (x.toInt % 32768) u.toInt _ (by omega) (by omega) f4 (by omega) rfl⟩⟩
theorem run_27_16 {l : Launch} {Z : State} {a0 : Array Value} (hw : HW Z a0) {n0 : Nat} {h : Heap} (x : Int64) (hx0 : 0 ≤ x.toInt) (h1 : 67108864 ≤ x.toInt) (h2 : x.toInt < 134217728) : WP l B1 Z n0 (fun v h' => h = h' ∧ ∃ r : Int32, v = some (.int r) ∧ ((4611686018427387904 ≤ x.toInt ∧ r.toInt = 65535) ∨ (x.toInt < 4611686018427387904 ∧ r.toInt ≤ 54272 ∧ 0 ≤ r.toInt ∧ x.toInt ≤ valF r.toInt ∧ (r.toInt = 0 ∨ valF (r.toInt - 1) < x.toInt)))) h 0 0 27 #[.val (.long x), .second, .val (.int (16 : Int32)), .unset, .unset] [] := by
  have k32_10 : (10 : Int32).toInt = 10 := by decide
  have k32_16 : (16 : Int32).toInt = 16 := by decide
  have k32_63 : (63 : Int32).toInt = 63 := by decide
  have k32_16384 : (16384 : Int32).toInt = 16384 := by decide
  have k64_1 : (1 : Int64).toInt = 1 := by decide
  have k64_16384 : (16384 : Int64).toInt = 16384 := by decide
  have k64_65535 : (65535 : Int64).toInt = 65535 := by decide
  have k64_65536 : (65536 : Int64).toInt = 65536 := by decide
  refine WP.lloadN d1_27 rfl (pc' := 28) rfl ?_
  refine WP.lconst1 d1_28 (pc' := 29) rfl ?_
  refine WP.iloadN d1_29 rfl (pc' := 30) rfl ?_
  refine WP.lshl d1_30 (pc' := 31) rfl ?_
  rw [show ((1 : Int64) <<< ((16 : Int32) &&& 63).toInt64) = (65536 : Int64) from by decide]
  refine WP.lconst1 d1_31 (pc' := 32) rfl ?_
  refine WP.lsub d1_32 (pc' := 33) rfl ?_
  rw [show (((65536 : Int64) - (1 : Int64)) : Int64) = (65535 : Int64) from by decide]
  refine WP.land d1_33 (pc' := 34) rfl ?_
  refine WP.lneg d1_34 (pc' := 35) rfl ?_
  refine WP.bipush d1_35 (z := (63 : Int32)) rfl (pc' := 37) rfl ?_
  refine WP.lushr d1_37 (pc' := 38) rfl ?_
  obtain ⟨u, e_u⟩ : ∃ z, z = (ushrL (-(x &&& (65535 : Int64))) (63 : Int32)) := ⟨_, rfl⟩
  rw [← e_u]
  refine WP.lstoreN d1_38 (pc' := 39) rfl (ls' := #[.val (.long x), .second, .val (.int (16 : Int32)), .val (.long u), .second]) rfl ?_
  have f1 : (x &&& (65535 : Int64)).toInt = x.toInt % 65536 := own_maskL _ _ 16 _ (by decide) (by decide) (by decide)
  have f2 : (-(x &&& (65535 : Int64))).toInt = -(x.toInt % 65536) := by have g1 := c_lneg (x &&& (65535 : Int64)); have g2 := own_r64 (-(x &&& (65535 : Int64))); omega
  have f3 : u.toInt = ((-(x &&& (65535 : Int64))).toInt % 18446744073709551616) / 9223372036854775808 := by rw [e_u]; exact c_lushr _ 63 63 (by decide) (by decide)
  have f4 : (x.toInt % 65536 = 0 ∧ u.toInt = 0) ∨ (0 < x.toInt % 65536 ∧ u.toInt = 1) := by omega
  clear f1 f2 f3
  refine WP.iloadN d1_39 rfl (pc' := 40) rfl ?_
  refine WP.bipush d1_40 (z := (10 : Int32)) rfl (pc' := 42) rfl ?_
  refine WP.ishl d1_42 (pc' := 43) rfl ?_
  rw [show ((16 : Int32) <<< ((10 : Int32) &&& 31)) = (16384 : Int32) from by decide]
  refine WP.i2l d1_43 (pc' := 44) rfl ?_
  rw [show (16384 : Int32).toInt64 = (16384 : Int64) from by decide]
  refine WP.lloadN d1_44 rfl (pc' := 45) rfl ?_
  refine WP.iloadN d1_45 rfl (pc' := 46) rfl ?_
  refine WP.lushr d1_46 (pc' := 47) rfl ?_
  refine WP.ladd d1_47 (pc' := 48) rfl ?_
  refine WP.lloadN d1_48 rfl (pc' := 49) rfl ?_
  refine WP.ladd d1_49 (pc' := 50) rfl ?_
  have g1 : (ushrL x (16 : Int32)).toInt = x.toInt / 65536 := by have q : (ushrL x (16 : Int32)).toInt = (x.toInt % 18446744073709551616) / 65536 := c_lushr x (16 : Int32) 16 (by decide) (by decide); omega
  have g2 : ((16384 : Int64) + (ushrL x (16 : Int32))).toInt = 16384 + x.toInt / 65536 := by rw [own_ladd] <;> omega
  have g3 : (((16384 : Int64) + (ushrL x (16 : Int32))) + u).toInt = 16384 + x.toInt / 65536 + u.toInt := by rw [own_ladd] <;> omega
  have g4 := c_l2i (((16384 : Int64) + (ushrL x (16 : Int32))) + u)
  have g5 := own_r32 (((16384 : Int64) + (ushrL x (16 : Int32))) + u).toInt32
  have g6 := c_i2c (((16384 : Int64) + (ushrL x (16 : Int32))) + u).toInt32
  have g7 := c_i2c ((((16384 : Int64) + (ushrL x (16 : Int32))) + u).toInt32.toUInt32.toUInt16.toUInt32.toInt32)
  refine WP.l2i d1_50 (pc' := 51) rfl ?_
  refine WP.i2c d1_51 (pc' := 52) rfl ?_
  exact WP.retN d1_52 (t := .char) rfl (by simp) (by decide) (by decide) ⟨rfl, _, rfl, Or.inr ⟨by omega, by have e9 : (nar .char ((((16384 : Int64) + (ushrL x (16 : Int32))) + u).toInt32.toUInt32.toUInt16.toUInt32.toInt32)).toInt = 16384 + x.toInt / 65536 + u.toInt := (show ((((16384 : Int64) + (ushrL x (16 : Int32))) + u).toInt32.toUInt32.toUInt16.toUInt32.toInt32.toUInt32.toUInt16.toUInt32.toInt32).toInt = _ by omega); rw [e9]; exact vk_16 x.toInt (x.toInt / 65536) (x.toInt % 65536) u.toInt _ (by omega) (by omega) f4 (by omega) rfl⟩⟩
theorem run_27_17 {l : Launch} {Z : State} {a0 : Array Value} (hw : HW Z a0) {n0 : Nat} {h : Heap} (x : Int64) (hx0 : 0 ≤ x.toInt) (h1 : 134217728 ≤ x.toInt) (h2 : x.toInt < 268435456) : WP l B1 Z n0 (fun v h' => h = h' ∧ ∃ r : Int32, v = some (.int r) ∧ ((4611686018427387904 ≤ x.toInt ∧ r.toInt = 65535) ∨ (x.toInt < 4611686018427387904 ∧ r.toInt ≤ 54272 ∧ 0 ≤ r.toInt ∧ x.toInt ≤ valF r.toInt ∧ (r.toInt = 0 ∨ valF (r.toInt - 1) < x.toInt)))) h 0 0 27 #[.val (.long x), .second, .val (.int (17 : Int32)), .unset, .unset] [] := by
  have k32_10 : (10 : Int32).toInt = 10 := by decide
  have k32_17 : (17 : Int32).toInt = 17 := by decide
  have k32_63 : (63 : Int32).toInt = 63 := by decide
  have k32_17408 : (17408 : Int32).toInt = 17408 := by decide
  have k64_1 : (1 : Int64).toInt = 1 := by decide
  have k64_17408 : (17408 : Int64).toInt = 17408 := by decide
  have k64_131071 : (131071 : Int64).toInt = 131071 := by decide
  have k64_131072 : (131072 : Int64).toInt = 131072 := by decide
  refine WP.lloadN d1_27 rfl (pc' := 28) rfl ?_
  refine WP.lconst1 d1_28 (pc' := 29) rfl ?_
  refine WP.iloadN d1_29 rfl (pc' := 30) rfl ?_
  refine WP.lshl d1_30 (pc' := 31) rfl ?_
  rw [show ((1 : Int64) <<< ((17 : Int32) &&& 63).toInt64) = (131072 : Int64) from by decide]
  refine WP.lconst1 d1_31 (pc' := 32) rfl ?_
  refine WP.lsub d1_32 (pc' := 33) rfl ?_
  rw [show (((131072 : Int64) - (1 : Int64)) : Int64) = (131071 : Int64) from by decide]
  refine WP.land d1_33 (pc' := 34) rfl ?_
  refine WP.lneg d1_34 (pc' := 35) rfl ?_
  refine WP.bipush d1_35 (z := (63 : Int32)) rfl (pc' := 37) rfl ?_
  refine WP.lushr d1_37 (pc' := 38) rfl ?_
  obtain ⟨u, e_u⟩ : ∃ z, z = (ushrL (-(x &&& (131071 : Int64))) (63 : Int32)) := ⟨_, rfl⟩
  rw [← e_u]
  refine WP.lstoreN d1_38 (pc' := 39) rfl (ls' := #[.val (.long x), .second, .val (.int (17 : Int32)), .val (.long u), .second]) rfl ?_
  have f1 : (x &&& (131071 : Int64)).toInt = x.toInt % 131072 := own_maskL _ _ 17 _ (by decide) (by decide) (by decide)
  have f2 : (-(x &&& (131071 : Int64))).toInt = -(x.toInt % 131072) := by have g1 := c_lneg (x &&& (131071 : Int64)); have g2 := own_r64 (-(x &&& (131071 : Int64))); omega
  have f3 : u.toInt = ((-(x &&& (131071 : Int64))).toInt % 18446744073709551616) / 9223372036854775808 := by rw [e_u]; exact c_lushr _ 63 63 (by decide) (by decide)
  have f4 : (x.toInt % 131072 = 0 ∧ u.toInt = 0) ∨ (0 < x.toInt % 131072 ∧ u.toInt = 1) := by omega
  clear f1 f2 f3
  refine WP.iloadN d1_39 rfl (pc' := 40) rfl ?_
  refine WP.bipush d1_40 (z := (10 : Int32)) rfl (pc' := 42) rfl ?_
  refine WP.ishl d1_42 (pc' := 43) rfl ?_
  rw [show ((17 : Int32) <<< ((10 : Int32) &&& 31)) = (17408 : Int32) from by decide]
  refine WP.i2l d1_43 (pc' := 44) rfl ?_
  rw [show (17408 : Int32).toInt64 = (17408 : Int64) from by decide]
  refine WP.lloadN d1_44 rfl (pc' := 45) rfl ?_
  refine WP.iloadN d1_45 rfl (pc' := 46) rfl ?_
  refine WP.lushr d1_46 (pc' := 47) rfl ?_
  refine WP.ladd d1_47 (pc' := 48) rfl ?_
  refine WP.lloadN d1_48 rfl (pc' := 49) rfl ?_
  refine WP.ladd d1_49 (pc' := 50) rfl ?_
  have g1 : (ushrL x (17 : Int32)).toInt = x.toInt / 131072 := by have q : (ushrL x (17 : Int32)).toInt = (x.toInt % 18446744073709551616) / 131072 := c_lushr x (17 : Int32) 17 (by decide) (by decide); omega
  have g2 : ((17408 : Int64) + (ushrL x (17 : Int32))).toInt = 17408 + x.toInt / 131072 := by rw [own_ladd] <;> omega
  have g3 : (((17408 : Int64) + (ushrL x (17 : Int32))) + u).toInt = 17408 + x.toInt / 131072 + u.toInt := by rw [own_ladd] <;> omega
  have g4 := c_l2i (((17408 : Int64) + (ushrL x (17 : Int32))) + u)
  have g5 := own_r32 (((17408 : Int64) + (ushrL x (17 : Int32))) + u).toInt32
  have g6 := c_i2c (((17408 : Int64) + (ushrL x (17 : Int32))) + u).toInt32
  have g7 := c_i2c ((((17408 : Int64) + (ushrL x (17 : Int32))) + u).toInt32.toUInt32.toUInt16.toUInt32.toInt32)
  refine WP.l2i d1_50 (pc' := 51) rfl ?_
  refine WP.i2c d1_51 (pc' := 52) rfl ?_
  exact WP.retN d1_52 (t := .char) rfl (by simp) (by decide) (by decide) ⟨rfl, _, rfl, Or.inr ⟨by omega, by have e9 : (nar .char ((((17408 : Int64) + (ushrL x (17 : Int32))) + u).toInt32.toUInt32.toUInt16.toUInt32.toInt32)).toInt = 17408 + x.toInt / 131072 + u.toInt := (show ((((17408 : Int64) + (ushrL x (17 : Int32))) + u).toInt32.toUInt32.toUInt16.toUInt32.toInt32.toUInt32.toUInt16.toUInt32.toInt32).toInt = _ by omega); rw [e9]; exact vk_17 x.toInt (x.toInt / 131072) (x.toInt % 131072) u.toInt _ (by omega) (by omega) f4 (by omega) rfl⟩⟩
theorem run_27_18 {l : Launch} {Z : State} {a0 : Array Value} (hw : HW Z a0) {n0 : Nat} {h : Heap} (x : Int64) (hx0 : 0 ≤ x.toInt) (h1 : 268435456 ≤ x.toInt) (h2 : x.toInt < 536870912) : WP l B1 Z n0 (fun v h' => h = h' ∧ ∃ r : Int32, v = some (.int r) ∧ ((4611686018427387904 ≤ x.toInt ∧ r.toInt = 65535) ∨ (x.toInt < 4611686018427387904 ∧ r.toInt ≤ 54272 ∧ 0 ≤ r.toInt ∧ x.toInt ≤ valF r.toInt ∧ (r.toInt = 0 ∨ valF (r.toInt - 1) < x.toInt)))) h 0 0 27 #[.val (.long x), .second, .val (.int (18 : Int32)), .unset, .unset] [] := by
  have k32_10 : (10 : Int32).toInt = 10 := by decide
  have k32_18 : (18 : Int32).toInt = 18 := by decide
  have k32_63 : (63 : Int32).toInt = 63 := by decide
  have k32_18432 : (18432 : Int32).toInt = 18432 := by decide
  have k64_1 : (1 : Int64).toInt = 1 := by decide
  have k64_18432 : (18432 : Int64).toInt = 18432 := by decide
  have k64_262143 : (262143 : Int64).toInt = 262143 := by decide
  have k64_262144 : (262144 : Int64).toInt = 262144 := by decide
  refine WP.lloadN d1_27 rfl (pc' := 28) rfl ?_
  refine WP.lconst1 d1_28 (pc' := 29) rfl ?_
  refine WP.iloadN d1_29 rfl (pc' := 30) rfl ?_
  refine WP.lshl d1_30 (pc' := 31) rfl ?_
  rw [show ((1 : Int64) <<< ((18 : Int32) &&& 63).toInt64) = (262144 : Int64) from by decide]
  refine WP.lconst1 d1_31 (pc' := 32) rfl ?_
  refine WP.lsub d1_32 (pc' := 33) rfl ?_
  rw [show (((262144 : Int64) - (1 : Int64)) : Int64) = (262143 : Int64) from by decide]
  refine WP.land d1_33 (pc' := 34) rfl ?_
  refine WP.lneg d1_34 (pc' := 35) rfl ?_
  refine WP.bipush d1_35 (z := (63 : Int32)) rfl (pc' := 37) rfl ?_
  refine WP.lushr d1_37 (pc' := 38) rfl ?_
  obtain ⟨u, e_u⟩ : ∃ z, z = (ushrL (-(x &&& (262143 : Int64))) (63 : Int32)) := ⟨_, rfl⟩
  rw [← e_u]
  refine WP.lstoreN d1_38 (pc' := 39) rfl (ls' := #[.val (.long x), .second, .val (.int (18 : Int32)), .val (.long u), .second]) rfl ?_
  have f1 : (x &&& (262143 : Int64)).toInt = x.toInt % 262144 := own_maskL _ _ 18 _ (by decide) (by decide) (by decide)
  have f2 : (-(x &&& (262143 : Int64))).toInt = -(x.toInt % 262144) := by have g1 := c_lneg (x &&& (262143 : Int64)); have g2 := own_r64 (-(x &&& (262143 : Int64))); omega
  have f3 : u.toInt = ((-(x &&& (262143 : Int64))).toInt % 18446744073709551616) / 9223372036854775808 := by rw [e_u]; exact c_lushr _ 63 63 (by decide) (by decide)
  have f4 : (x.toInt % 262144 = 0 ∧ u.toInt = 0) ∨ (0 < x.toInt % 262144 ∧ u.toInt = 1) := by omega
  clear f1 f2 f3
  refine WP.iloadN d1_39 rfl (pc' := 40) rfl ?_
  refine WP.bipush d1_40 (z := (10 : Int32)) rfl (pc' := 42) rfl ?_
  refine WP.ishl d1_42 (pc' := 43) rfl ?_
  rw [show ((18 : Int32) <<< ((10 : Int32) &&& 31)) = (18432 : Int32) from by decide]
  refine WP.i2l d1_43 (pc' := 44) rfl ?_
  rw [show (18432 : Int32).toInt64 = (18432 : Int64) from by decide]
  refine WP.lloadN d1_44 rfl (pc' := 45) rfl ?_
  refine WP.iloadN d1_45 rfl (pc' := 46) rfl ?_
  refine WP.lushr d1_46 (pc' := 47) rfl ?_
  refine WP.ladd d1_47 (pc' := 48) rfl ?_
  refine WP.lloadN d1_48 rfl (pc' := 49) rfl ?_
  refine WP.ladd d1_49 (pc' := 50) rfl ?_
  have g1 : (ushrL x (18 : Int32)).toInt = x.toInt / 262144 := by have q : (ushrL x (18 : Int32)).toInt = (x.toInt % 18446744073709551616) / 262144 := c_lushr x (18 : Int32) 18 (by decide) (by decide); omega
  have g2 : ((18432 : Int64) + (ushrL x (18 : Int32))).toInt = 18432 + x.toInt / 262144 := by rw [own_ladd] <;> omega
  have g3 : (((18432 : Int64) + (ushrL x (18 : Int32))) + u).toInt = 18432 + x.toInt / 262144 + u.toInt := by rw [own_ladd] <;> omega
  have g4 := c_l2i (((18432 : Int64) + (ushrL x (18 : Int32))) + u)
  have g5 := own_r32 (((18432 : Int64) + (ushrL x (18 : Int32))) + u).toInt32
  have g6 := c_i2c (((18432 : Int64) + (ushrL x (18 : Int32))) + u).toInt32
  have g7 := c_i2c ((((18432 : Int64) + (ushrL x (18 : Int32))) + u).toInt32.toUInt32.toUInt16.toUInt32.toInt32)
  refine WP.l2i d1_50 (pc' := 51) rfl ?_
  refine WP.i2c d1_51 (pc' := 52) rfl ?_
  exact WP.retN d1_52 (t := .char) rfl (by simp) (by decide) (by decide) ⟨rfl, _, rfl, Or.inr ⟨by omega, by have e9 : (nar .char ((((18432 : Int64) + (ushrL x (18 : Int32))) + u).toInt32.toUInt32.toUInt16.toUInt32.toInt32)).toInt = 18432 + x.toInt / 262144 + u.toInt := (show ((((18432 : Int64) + (ushrL x (18 : Int32))) + u).toInt32.toUInt32.toUInt16.toUInt32.toInt32.toUInt32.toUInt16.toUInt32.toInt32).toInt = _ by omega); rw [e9]; exact vk_18 x.toInt (x.toInt / 262144) (x.toInt % 262144) u.toInt _ (by omega) (by omega) f4 (by omega) rfl⟩⟩
theorem run_27_19 {l : Launch} {Z : State} {a0 : Array Value} (hw : HW Z a0) {n0 : Nat} {h : Heap} (x : Int64) (hx0 : 0 ≤ x.toInt) (h1 : 536870912 ≤ x.toInt) (h2 : x.toInt < 1073741824) : WP l B1 Z n0 (fun v h' => h = h' ∧ ∃ r : Int32, v = some (.int r) ∧ ((4611686018427387904 ≤ x.toInt ∧ r.toInt = 65535) ∨ (x.toInt < 4611686018427387904 ∧ r.toInt ≤ 54272 ∧ 0 ≤ r.toInt ∧ x.toInt ≤ valF r.toInt ∧ (r.toInt = 0 ∨ valF (r.toInt - 1) < x.toInt)))) h 0 0 27 #[.val (.long x), .second, .val (.int (19 : Int32)), .unset, .unset] [] := by
  have k32_10 : (10 : Int32).toInt = 10 := by decide
  have k32_19 : (19 : Int32).toInt = 19 := by decide
  have k32_63 : (63 : Int32).toInt = 63 := by decide
  have k32_19456 : (19456 : Int32).toInt = 19456 := by decide
  have k64_1 : (1 : Int64).toInt = 1 := by decide
  have k64_19456 : (19456 : Int64).toInt = 19456 := by decide
  have k64_524287 : (524287 : Int64).toInt = 524287 := by decide
  have k64_524288 : (524288 : Int64).toInt = 524288 := by decide
  refine WP.lloadN d1_27 rfl (pc' := 28) rfl ?_
  refine WP.lconst1 d1_28 (pc' := 29) rfl ?_
  refine WP.iloadN d1_29 rfl (pc' := 30) rfl ?_
  refine WP.lshl d1_30 (pc' := 31) rfl ?_
  rw [show ((1 : Int64) <<< ((19 : Int32) &&& 63).toInt64) = (524288 : Int64) from by decide]
  refine WP.lconst1 d1_31 (pc' := 32) rfl ?_
  refine WP.lsub d1_32 (pc' := 33) rfl ?_
  rw [show (((524288 : Int64) - (1 : Int64)) : Int64) = (524287 : Int64) from by decide]
  refine WP.land d1_33 (pc' := 34) rfl ?_
  refine WP.lneg d1_34 (pc' := 35) rfl ?_
  refine WP.bipush d1_35 (z := (63 : Int32)) rfl (pc' := 37) rfl ?_
  refine WP.lushr d1_37 (pc' := 38) rfl ?_
  obtain ⟨u, e_u⟩ : ∃ z, z = (ushrL (-(x &&& (524287 : Int64))) (63 : Int32)) := ⟨_, rfl⟩
  rw [← e_u]
  refine WP.lstoreN d1_38 (pc' := 39) rfl (ls' := #[.val (.long x), .second, .val (.int (19 : Int32)), .val (.long u), .second]) rfl ?_
  have f1 : (x &&& (524287 : Int64)).toInt = x.toInt % 524288 := own_maskL _ _ 19 _ (by decide) (by decide) (by decide)
  have f2 : (-(x &&& (524287 : Int64))).toInt = -(x.toInt % 524288) := by have g1 := c_lneg (x &&& (524287 : Int64)); have g2 := own_r64 (-(x &&& (524287 : Int64))); omega
  have f3 : u.toInt = ((-(x &&& (524287 : Int64))).toInt % 18446744073709551616) / 9223372036854775808 := by rw [e_u]; exact c_lushr _ 63 63 (by decide) (by decide)
  have f4 : (x.toInt % 524288 = 0 ∧ u.toInt = 0) ∨ (0 < x.toInt % 524288 ∧ u.toInt = 1) := by omega
  clear f1 f2 f3
  refine WP.iloadN d1_39 rfl (pc' := 40) rfl ?_
  refine WP.bipush d1_40 (z := (10 : Int32)) rfl (pc' := 42) rfl ?_
  refine WP.ishl d1_42 (pc' := 43) rfl ?_
  rw [show ((19 : Int32) <<< ((10 : Int32) &&& 31)) = (19456 : Int32) from by decide]
  refine WP.i2l d1_43 (pc' := 44) rfl ?_
  rw [show (19456 : Int32).toInt64 = (19456 : Int64) from by decide]
  refine WP.lloadN d1_44 rfl (pc' := 45) rfl ?_
  refine WP.iloadN d1_45 rfl (pc' := 46) rfl ?_
  refine WP.lushr d1_46 (pc' := 47) rfl ?_
  refine WP.ladd d1_47 (pc' := 48) rfl ?_
  refine WP.lloadN d1_48 rfl (pc' := 49) rfl ?_
  refine WP.ladd d1_49 (pc' := 50) rfl ?_
  have g1 : (ushrL x (19 : Int32)).toInt = x.toInt / 524288 := by have q : (ushrL x (19 : Int32)).toInt = (x.toInt % 18446744073709551616) / 524288 := c_lushr x (19 : Int32) 19 (by decide) (by decide); omega
  have g2 : ((19456 : Int64) + (ushrL x (19 : Int32))).toInt = 19456 + x.toInt / 524288 := by rw [own_ladd] <;> omega
  have g3 : (((19456 : Int64) + (ushrL x (19 : Int32))) + u).toInt = 19456 + x.toInt / 524288 + u.toInt := by rw [own_ladd] <;> omega
  have g4 := c_l2i (((19456 : Int64) + (ushrL x (19 : Int32))) + u)
  have g5 := own_r32 (((19456 : Int64) + (ushrL x (19 : Int32))) + u).toInt32
  have g6 := c_i2c (((19456 : Int64) + (ushrL x (19 : Int32))) + u).toInt32
  have g7 := c_i2c ((((19456 : Int64) + (ushrL x (19 : Int32))) + u).toInt32.toUInt32.toUInt16.toUInt32.toInt32)
  refine WP.l2i d1_50 (pc' := 51) rfl ?_
  refine WP.i2c d1_51 (pc' := 52) rfl ?_
  exact WP.retN d1_52 (t := .char) rfl (by simp) (by decide) (by decide) ⟨rfl, _, rfl, Or.inr ⟨by omega, by have e9 : (nar .char ((((19456 : Int64) + (ushrL x (19 : Int32))) + u).toInt32.toUInt32.toUInt16.toUInt32.toInt32)).toInt = 19456 + x.toInt / 524288 + u.toInt := (show ((((19456 : Int64) + (ushrL x (19 : Int32))) + u).toInt32.toUInt32.toUInt16.toUInt32.toInt32.toUInt32.toUInt16.toUInt32.toInt32).toInt = _ by omega); rw [e9]; exact vk_19 x.toInt (x.toInt / 524288) (x.toInt % 524288) u.toInt _ (by omega) (by omega) f4 (by omega) rfl⟩⟩
theorem run_27_20 {l : Launch} {Z : State} {a0 : Array Value} (hw : HW Z a0) {n0 : Nat} {h : Heap} (x : Int64) (hx0 : 0 ≤ x.toInt) (h1 : 1073741824 ≤ x.toInt) (h2 : x.toInt < 2147483648) : WP l B1 Z n0 (fun v h' => h = h' ∧ ∃ r : Int32, v = some (.int r) ∧ ((4611686018427387904 ≤ x.toInt ∧ r.toInt = 65535) ∨ (x.toInt < 4611686018427387904 ∧ r.toInt ≤ 54272 ∧ 0 ≤ r.toInt ∧ x.toInt ≤ valF r.toInt ∧ (r.toInt = 0 ∨ valF (r.toInt - 1) < x.toInt)))) h 0 0 27 #[.val (.long x), .second, .val (.int (20 : Int32)), .unset, .unset] [] := by
  have k32_10 : (10 : Int32).toInt = 10 := by decide
  have k32_20 : (20 : Int32).toInt = 20 := by decide
  have k32_63 : (63 : Int32).toInt = 63 := by decide
  have k32_20480 : (20480 : Int32).toInt = 20480 := by decide
  have k64_1 : (1 : Int64).toInt = 1 := by decide
  have k64_20480 : (20480 : Int64).toInt = 20480 := by decide
  have k64_1048575 : (1048575 : Int64).toInt = 1048575 := by decide
  have k64_1048576 : (1048576 : Int64).toInt = 1048576 := by decide
  refine WP.lloadN d1_27 rfl (pc' := 28) rfl ?_
  refine WP.lconst1 d1_28 (pc' := 29) rfl ?_
  refine WP.iloadN d1_29 rfl (pc' := 30) rfl ?_
  refine WP.lshl d1_30 (pc' := 31) rfl ?_
  rw [show ((1 : Int64) <<< ((20 : Int32) &&& 63).toInt64) = (1048576 : Int64) from by decide]
  refine WP.lconst1 d1_31 (pc' := 32) rfl ?_
  refine WP.lsub d1_32 (pc' := 33) rfl ?_
  rw [show (((1048576 : Int64) - (1 : Int64)) : Int64) = (1048575 : Int64) from by decide]
  refine WP.land d1_33 (pc' := 34) rfl ?_
  refine WP.lneg d1_34 (pc' := 35) rfl ?_
  refine WP.bipush d1_35 (z := (63 : Int32)) rfl (pc' := 37) rfl ?_
  refine WP.lushr d1_37 (pc' := 38) rfl ?_
  obtain ⟨u, e_u⟩ : ∃ z, z = (ushrL (-(x &&& (1048575 : Int64))) (63 : Int32)) := ⟨_, rfl⟩
  rw [← e_u]
  refine WP.lstoreN d1_38 (pc' := 39) rfl (ls' := #[.val (.long x), .second, .val (.int (20 : Int32)), .val (.long u), .second]) rfl ?_
  have f1 : (x &&& (1048575 : Int64)).toInt = x.toInt % 1048576 := own_maskL _ _ 20 _ (by decide) (by decide) (by decide)
  have f2 : (-(x &&& (1048575 : Int64))).toInt = -(x.toInt % 1048576) := by have g1 := c_lneg (x &&& (1048575 : Int64)); have g2 := own_r64 (-(x &&& (1048575 : Int64))); omega
  have f3 : u.toInt = ((-(x &&& (1048575 : Int64))).toInt % 18446744073709551616) / 9223372036854775808 := by rw [e_u]; exact c_lushr _ 63 63 (by decide) (by decide)
  have f4 : (x.toInt % 1048576 = 0 ∧ u.toInt = 0) ∨ (0 < x.toInt % 1048576 ∧ u.toInt = 1) := by omega
  clear f1 f2 f3
  refine WP.iloadN d1_39 rfl (pc' := 40) rfl ?_
  refine WP.bipush d1_40 (z := (10 : Int32)) rfl (pc' := 42) rfl ?_
  refine WP.ishl d1_42 (pc' := 43) rfl ?_
  rw [show ((20 : Int32) <<< ((10 : Int32) &&& 31)) = (20480 : Int32) from by decide]
  refine WP.i2l d1_43 (pc' := 44) rfl ?_
  rw [show (20480 : Int32).toInt64 = (20480 : Int64) from by decide]
  refine WP.lloadN d1_44 rfl (pc' := 45) rfl ?_
  refine WP.iloadN d1_45 rfl (pc' := 46) rfl ?_
  refine WP.lushr d1_46 (pc' := 47) rfl ?_
  refine WP.ladd d1_47 (pc' := 48) rfl ?_
  refine WP.lloadN d1_48 rfl (pc' := 49) rfl ?_
  refine WP.ladd d1_49 (pc' := 50) rfl ?_
  have g1 : (ushrL x (20 : Int32)).toInt = x.toInt / 1048576 := by have q : (ushrL x (20 : Int32)).toInt = (x.toInt % 18446744073709551616) / 1048576 := c_lushr x (20 : Int32) 20 (by decide) (by decide); omega
  have g2 : ((20480 : Int64) + (ushrL x (20 : Int32))).toInt = 20480 + x.toInt / 1048576 := by rw [own_ladd] <;> omega
  have g3 : (((20480 : Int64) + (ushrL x (20 : Int32))) + u).toInt = 20480 + x.toInt / 1048576 + u.toInt := by rw [own_ladd] <;> omega
  have g4 := c_l2i (((20480 : Int64) + (ushrL x (20 : Int32))) + u)
  have g5 := own_r32 (((20480 : Int64) + (ushrL x (20 : Int32))) + u).toInt32
  have g6 := c_i2c (((20480 : Int64) + (ushrL x (20 : Int32))) + u).toInt32
  have g7 := c_i2c ((((20480 : Int64) + (ushrL x (20 : Int32))) + u).toInt32.toUInt32.toUInt16.toUInt32.toInt32)
  refine WP.l2i d1_50 (pc' := 51) rfl ?_
  refine WP.i2c d1_51 (pc' := 52) rfl ?_
  exact WP.retN d1_52 (t := .char) rfl (by simp) (by decide) (by decide) ⟨rfl, _, rfl, Or.inr ⟨by omega, by have e9 : (nar .char ((((20480 : Int64) + (ushrL x (20 : Int32))) + u).toInt32.toUInt32.toUInt16.toUInt32.toInt32)).toInt = 20480 + x.toInt / 1048576 + u.toInt := (show ((((20480 : Int64) + (ushrL x (20 : Int32))) + u).toInt32.toUInt32.toUInt16.toUInt32.toInt32.toUInt32.toUInt16.toUInt32.toInt32).toInt = _ by omega); rw [e9]; exact vk_20 x.toInt (x.toInt / 1048576) (x.toInt % 1048576) u.toInt _ (by omega) (by omega) f4 (by omega) rfl⟩⟩
theorem run_27_21 {l : Launch} {Z : State} {a0 : Array Value} (hw : HW Z a0) {n0 : Nat} {h : Heap} (x : Int64) (hx0 : 0 ≤ x.toInt) (h1 : 2147483648 ≤ x.toInt) (h2 : x.toInt < 4294967296) : WP l B1 Z n0 (fun v h' => h = h' ∧ ∃ r : Int32, v = some (.int r) ∧ ((4611686018427387904 ≤ x.toInt ∧ r.toInt = 65535) ∨ (x.toInt < 4611686018427387904 ∧ r.toInt ≤ 54272 ∧ 0 ≤ r.toInt ∧ x.toInt ≤ valF r.toInt ∧ (r.toInt = 0 ∨ valF (r.toInt - 1) < x.toInt)))) h 0 0 27 #[.val (.long x), .second, .val (.int (21 : Int32)), .unset, .unset] [] := by
  have k32_10 : (10 : Int32).toInt = 10 := by decide
  have k32_21 : (21 : Int32).toInt = 21 := by decide
  have k32_63 : (63 : Int32).toInt = 63 := by decide
  have k32_21504 : (21504 : Int32).toInt = 21504 := by decide
  have k64_1 : (1 : Int64).toInt = 1 := by decide
  have k64_21504 : (21504 : Int64).toInt = 21504 := by decide
  have k64_2097151 : (2097151 : Int64).toInt = 2097151 := by decide
  have k64_2097152 : (2097152 : Int64).toInt = 2097152 := by decide
  refine WP.lloadN d1_27 rfl (pc' := 28) rfl ?_
  refine WP.lconst1 d1_28 (pc' := 29) rfl ?_
  refine WP.iloadN d1_29 rfl (pc' := 30) rfl ?_
  refine WP.lshl d1_30 (pc' := 31) rfl ?_
  rw [show ((1 : Int64) <<< ((21 : Int32) &&& 63).toInt64) = (2097152 : Int64) from by decide]
  refine WP.lconst1 d1_31 (pc' := 32) rfl ?_
  refine WP.lsub d1_32 (pc' := 33) rfl ?_
  rw [show (((2097152 : Int64) - (1 : Int64)) : Int64) = (2097151 : Int64) from by decide]
  refine WP.land d1_33 (pc' := 34) rfl ?_
  refine WP.lneg d1_34 (pc' := 35) rfl ?_
  refine WP.bipush d1_35 (z := (63 : Int32)) rfl (pc' := 37) rfl ?_
  refine WP.lushr d1_37 (pc' := 38) rfl ?_
  obtain ⟨u, e_u⟩ : ∃ z, z = (ushrL (-(x &&& (2097151 : Int64))) (63 : Int32)) := ⟨_, rfl⟩
  rw [← e_u]
  refine WP.lstoreN d1_38 (pc' := 39) rfl (ls' := #[.val (.long x), .second, .val (.int (21 : Int32)), .val (.long u), .second]) rfl ?_
  have f1 : (x &&& (2097151 : Int64)).toInt = x.toInt % 2097152 := own_maskL _ _ 21 _ (by decide) (by decide) (by decide)
  have f2 : (-(x &&& (2097151 : Int64))).toInt = -(x.toInt % 2097152) := by have g1 := c_lneg (x &&& (2097151 : Int64)); have g2 := own_r64 (-(x &&& (2097151 : Int64))); omega
  have f3 : u.toInt = ((-(x &&& (2097151 : Int64))).toInt % 18446744073709551616) / 9223372036854775808 := by rw [e_u]; exact c_lushr _ 63 63 (by decide) (by decide)
  have f4 : (x.toInt % 2097152 = 0 ∧ u.toInt = 0) ∨ (0 < x.toInt % 2097152 ∧ u.toInt = 1) := by omega
  clear f1 f2 f3
  refine WP.iloadN d1_39 rfl (pc' := 40) rfl ?_
  refine WP.bipush d1_40 (z := (10 : Int32)) rfl (pc' := 42) rfl ?_
  refine WP.ishl d1_42 (pc' := 43) rfl ?_
  rw [show ((21 : Int32) <<< ((10 : Int32) &&& 31)) = (21504 : Int32) from by decide]
  refine WP.i2l d1_43 (pc' := 44) rfl ?_
  rw [show (21504 : Int32).toInt64 = (21504 : Int64) from by decide]
  refine WP.lloadN d1_44 rfl (pc' := 45) rfl ?_
  refine WP.iloadN d1_45 rfl (pc' := 46) rfl ?_
  refine WP.lushr d1_46 (pc' := 47) rfl ?_
  refine WP.ladd d1_47 (pc' := 48) rfl ?_
  refine WP.lloadN d1_48 rfl (pc' := 49) rfl ?_
  refine WP.ladd d1_49 (pc' := 50) rfl ?_
  have g1 : (ushrL x (21 : Int32)).toInt = x.toInt / 2097152 := by have q : (ushrL x (21 : Int32)).toInt = (x.toInt % 18446744073709551616) / 2097152 := c_lushr x (21 : Int32) 21 (by decide) (by decide); omega
  have g2 : ((21504 : Int64) + (ushrL x (21 : Int32))).toInt = 21504 + x.toInt / 2097152 := by rw [own_ladd] <;> omega
  have g3 : (((21504 : Int64) + (ushrL x (21 : Int32))) + u).toInt = 21504 + x.toInt / 2097152 + u.toInt := by rw [own_ladd] <;> omega
  have g4 := c_l2i (((21504 : Int64) + (ushrL x (21 : Int32))) + u)
  have g5 := own_r32 (((21504 : Int64) + (ushrL x (21 : Int32))) + u).toInt32
  have g6 := c_i2c (((21504 : Int64) + (ushrL x (21 : Int32))) + u).toInt32
  have g7 := c_i2c ((((21504 : Int64) + (ushrL x (21 : Int32))) + u).toInt32.toUInt32.toUInt16.toUInt32.toInt32)
  refine WP.l2i d1_50 (pc' := 51) rfl ?_
  refine WP.i2c d1_51 (pc' := 52) rfl ?_
  exact WP.retN d1_52 (t := .char) rfl (by simp) (by decide) (by decide) ⟨rfl, _, rfl, Or.inr ⟨by omega, by have e9 : (nar .char ((((21504 : Int64) + (ushrL x (21 : Int32))) + u).toInt32.toUInt32.toUInt16.toUInt32.toInt32)).toInt = 21504 + x.toInt / 2097152 + u.toInt := (show ((((21504 : Int64) + (ushrL x (21 : Int32))) + u).toInt32.toUInt32.toUInt16.toUInt32.toInt32.toUInt32.toUInt16.toUInt32.toInt32).toInt = _ by omega); rw [e9]; exact vk_21 x.toInt (x.toInt / 2097152) (x.toInt % 2097152) u.toInt _ (by omega) (by omega) f4 (by omega) rfl⟩⟩
theorem run_27_22 {l : Launch} {Z : State} {a0 : Array Value} (hw : HW Z a0) {n0 : Nat} {h : Heap} (x : Int64) (hx0 : 0 ≤ x.toInt) (h1 : 4294967296 ≤ x.toInt) (h2 : x.toInt < 8589934592) : WP l B1 Z n0 (fun v h' => h = h' ∧ ∃ r : Int32, v = some (.int r) ∧ ((4611686018427387904 ≤ x.toInt ∧ r.toInt = 65535) ∨ (x.toInt < 4611686018427387904 ∧ r.toInt ≤ 54272 ∧ 0 ≤ r.toInt ∧ x.toInt ≤ valF r.toInt ∧ (r.toInt = 0 ∨ valF (r.toInt - 1) < x.toInt)))) h 0 0 27 #[.val (.long x), .second, .val (.int (22 : Int32)), .unset, .unset] [] := by
  have k32_10 : (10 : Int32).toInt = 10 := by decide
  have k32_22 : (22 : Int32).toInt = 22 := by decide
  have k32_63 : (63 : Int32).toInt = 63 := by decide
  have k32_22528 : (22528 : Int32).toInt = 22528 := by decide
  have k64_1 : (1 : Int64).toInt = 1 := by decide
  have k64_22528 : (22528 : Int64).toInt = 22528 := by decide
  have k64_4194303 : (4194303 : Int64).toInt = 4194303 := by decide
  have k64_4194304 : (4194304 : Int64).toInt = 4194304 := by decide
  refine WP.lloadN d1_27 rfl (pc' := 28) rfl ?_
  refine WP.lconst1 d1_28 (pc' := 29) rfl ?_
  refine WP.iloadN d1_29 rfl (pc' := 30) rfl ?_
  refine WP.lshl d1_30 (pc' := 31) rfl ?_
  rw [show ((1 : Int64) <<< ((22 : Int32) &&& 63).toInt64) = (4194304 : Int64) from by decide]
  refine WP.lconst1 d1_31 (pc' := 32) rfl ?_
  refine WP.lsub d1_32 (pc' := 33) rfl ?_
  rw [show (((4194304 : Int64) - (1 : Int64)) : Int64) = (4194303 : Int64) from by decide]
  refine WP.land d1_33 (pc' := 34) rfl ?_
  refine WP.lneg d1_34 (pc' := 35) rfl ?_
  refine WP.bipush d1_35 (z := (63 : Int32)) rfl (pc' := 37) rfl ?_
  refine WP.lushr d1_37 (pc' := 38) rfl ?_
  obtain ⟨u, e_u⟩ : ∃ z, z = (ushrL (-(x &&& (4194303 : Int64))) (63 : Int32)) := ⟨_, rfl⟩
  rw [← e_u]
  refine WP.lstoreN d1_38 (pc' := 39) rfl (ls' := #[.val (.long x), .second, .val (.int (22 : Int32)), .val (.long u), .second]) rfl ?_
  have f1 : (x &&& (4194303 : Int64)).toInt = x.toInt % 4194304 := own_maskL _ _ 22 _ (by decide) (by decide) (by decide)
  have f2 : (-(x &&& (4194303 : Int64))).toInt = -(x.toInt % 4194304) := by have g1 := c_lneg (x &&& (4194303 : Int64)); have g2 := own_r64 (-(x &&& (4194303 : Int64))); omega
  have f3 : u.toInt = ((-(x &&& (4194303 : Int64))).toInt % 18446744073709551616) / 9223372036854775808 := by rw [e_u]; exact c_lushr _ 63 63 (by decide) (by decide)
  have f4 : (x.toInt % 4194304 = 0 ∧ u.toInt = 0) ∨ (0 < x.toInt % 4194304 ∧ u.toInt = 1) := by omega
  clear f1 f2 f3
  refine WP.iloadN d1_39 rfl (pc' := 40) rfl ?_
  refine WP.bipush d1_40 (z := (10 : Int32)) rfl (pc' := 42) rfl ?_
  refine WP.ishl d1_42 (pc' := 43) rfl ?_
  rw [show ((22 : Int32) <<< ((10 : Int32) &&& 31)) = (22528 : Int32) from by decide]
  refine WP.i2l d1_43 (pc' := 44) rfl ?_
  rw [show (22528 : Int32).toInt64 = (22528 : Int64) from by decide]
  refine WP.lloadN d1_44 rfl (pc' := 45) rfl ?_
  refine WP.iloadN d1_45 rfl (pc' := 46) rfl ?_
  refine WP.lushr d1_46 (pc' := 47) rfl ?_
  refine WP.ladd d1_47 (pc' := 48) rfl ?_
  refine WP.lloadN d1_48 rfl (pc' := 49) rfl ?_
  refine WP.ladd d1_49 (pc' := 50) rfl ?_
  have g1 : (ushrL x (22 : Int32)).toInt = x.toInt / 4194304 := by have q : (ushrL x (22 : Int32)).toInt = (x.toInt % 18446744073709551616) / 4194304 := c_lushr x (22 : Int32) 22 (by decide) (by decide); omega
  have g2 : ((22528 : Int64) + (ushrL x (22 : Int32))).toInt = 22528 + x.toInt / 4194304 := by rw [own_ladd] <;> omega
  have g3 : (((22528 : Int64) + (ushrL x (22 : Int32))) + u).toInt = 22528 + x.toInt / 4194304 + u.toInt := by rw [own_ladd] <;> omega
  have g4 := c_l2i (((22528 : Int64) + (ushrL x (22 : Int32))) + u)
  have g5 := own_r32 (((22528 : Int64) + (ushrL x (22 : Int32))) + u).toInt32
  have g6 := c_i2c (((22528 : Int64) + (ushrL x (22 : Int32))) + u).toInt32
  have g7 := c_i2c ((((22528 : Int64) + (ushrL x (22 : Int32))) + u).toInt32.toUInt32.toUInt16.toUInt32.toInt32)
  refine WP.l2i d1_50 (pc' := 51) rfl ?_
  refine WP.i2c d1_51 (pc' := 52) rfl ?_
  exact WP.retN d1_52 (t := .char) rfl (by simp) (by decide) (by decide) ⟨rfl, _, rfl, Or.inr ⟨by omega, by have e9 : (nar .char ((((22528 : Int64) + (ushrL x (22 : Int32))) + u).toInt32.toUInt32.toUInt16.toUInt32.toInt32)).toInt = 22528 + x.toInt / 4194304 + u.toInt := (show ((((22528 : Int64) + (ushrL x (22 : Int32))) + u).toInt32.toUInt32.toUInt16.toUInt32.toInt32.toUInt32.toUInt16.toUInt32.toInt32).toInt = _ by omega); rw [e9]; exact vk_22 x.toInt (x.toInt / 4194304) (x.toInt % 4194304) u.toInt _ (by omega) (by omega) f4 (by omega) rfl⟩⟩
theorem run_27_23 {l : Launch} {Z : State} {a0 : Array Value} (hw : HW Z a0) {n0 : Nat} {h : Heap} (x : Int64) (hx0 : 0 ≤ x.toInt) (h1 : 8589934592 ≤ x.toInt) (h2 : x.toInt < 17179869184) : WP l B1 Z n0 (fun v h' => h = h' ∧ ∃ r : Int32, v = some (.int r) ∧ ((4611686018427387904 ≤ x.toInt ∧ r.toInt = 65535) ∨ (x.toInt < 4611686018427387904 ∧ r.toInt ≤ 54272 ∧ 0 ≤ r.toInt ∧ x.toInt ≤ valF r.toInt ∧ (r.toInt = 0 ∨ valF (r.toInt - 1) < x.toInt)))) h 0 0 27 #[.val (.long x), .second, .val (.int (23 : Int32)), .unset, .unset] [] := by
  have k32_10 : (10 : Int32).toInt = 10 := by decide
  have k32_23 : (23 : Int32).toInt = 23 := by decide
  have k32_63 : (63 : Int32).toInt = 63 := by decide
  have k32_23552 : (23552 : Int32).toInt = 23552 := by decide
  have k64_1 : (1 : Int64).toInt = 1 := by decide
  have k64_23552 : (23552 : Int64).toInt = 23552 := by decide
  have k64_8388607 : (8388607 : Int64).toInt = 8388607 := by decide
  have k64_8388608 : (8388608 : Int64).toInt = 8388608 := by decide
  refine WP.lloadN d1_27 rfl (pc' := 28) rfl ?_
  refine WP.lconst1 d1_28 (pc' := 29) rfl ?_
  refine WP.iloadN d1_29 rfl (pc' := 30) rfl ?_
  refine WP.lshl d1_30 (pc' := 31) rfl ?_
  rw [show ((1 : Int64) <<< ((23 : Int32) &&& 63).toInt64) = (8388608 : Int64) from by decide]
  refine WP.lconst1 d1_31 (pc' := 32) rfl ?_
  refine WP.lsub d1_32 (pc' := 33) rfl ?_
  rw [show (((8388608 : Int64) - (1 : Int64)) : Int64) = (8388607 : Int64) from by decide]
  refine WP.land d1_33 (pc' := 34) rfl ?_
  refine WP.lneg d1_34 (pc' := 35) rfl ?_
  refine WP.bipush d1_35 (z := (63 : Int32)) rfl (pc' := 37) rfl ?_
  refine WP.lushr d1_37 (pc' := 38) rfl ?_
  obtain ⟨u, e_u⟩ : ∃ z, z = (ushrL (-(x &&& (8388607 : Int64))) (63 : Int32)) := ⟨_, rfl⟩
  rw [← e_u]
  refine WP.lstoreN d1_38 (pc' := 39) rfl (ls' := #[.val (.long x), .second, .val (.int (23 : Int32)), .val (.long u), .second]) rfl ?_
  have f1 : (x &&& (8388607 : Int64)).toInt = x.toInt % 8388608 := own_maskL _ _ 23 _ (by decide) (by decide) (by decide)
  have f2 : (-(x &&& (8388607 : Int64))).toInt = -(x.toInt % 8388608) := by have g1 := c_lneg (x &&& (8388607 : Int64)); have g2 := own_r64 (-(x &&& (8388607 : Int64))); omega
  have f3 : u.toInt = ((-(x &&& (8388607 : Int64))).toInt % 18446744073709551616) / 9223372036854775808 := by rw [e_u]; exact c_lushr _ 63 63 (by decide) (by decide)
  have f4 : (x.toInt % 8388608 = 0 ∧ u.toInt = 0) ∨ (0 < x.toInt % 8388608 ∧ u.toInt = 1) := by omega
  clear f1 f2 f3
  refine WP.iloadN d1_39 rfl (pc' := 40) rfl ?_
  refine WP.bipush d1_40 (z := (10 : Int32)) rfl (pc' := 42) rfl ?_
  refine WP.ishl d1_42 (pc' := 43) rfl ?_
  rw [show ((23 : Int32) <<< ((10 : Int32) &&& 31)) = (23552 : Int32) from by decide]
  refine WP.i2l d1_43 (pc' := 44) rfl ?_
  rw [show (23552 : Int32).toInt64 = (23552 : Int64) from by decide]
  refine WP.lloadN d1_44 rfl (pc' := 45) rfl ?_
  refine WP.iloadN d1_45 rfl (pc' := 46) rfl ?_
  refine WP.lushr d1_46 (pc' := 47) rfl ?_
  refine WP.ladd d1_47 (pc' := 48) rfl ?_
  refine WP.lloadN d1_48 rfl (pc' := 49) rfl ?_
  refine WP.ladd d1_49 (pc' := 50) rfl ?_
  have g1 : (ushrL x (23 : Int32)).toInt = x.toInt / 8388608 := by have q : (ushrL x (23 : Int32)).toInt = (x.toInt % 18446744073709551616) / 8388608 := c_lushr x (23 : Int32) 23 (by decide) (by decide); omega
  have g2 : ((23552 : Int64) + (ushrL x (23 : Int32))).toInt = 23552 + x.toInt / 8388608 := by rw [own_ladd] <;> omega
  have g3 : (((23552 : Int64) + (ushrL x (23 : Int32))) + u).toInt = 23552 + x.toInt / 8388608 + u.toInt := by rw [own_ladd] <;> omega
  have g4 := c_l2i (((23552 : Int64) + (ushrL x (23 : Int32))) + u)
  have g5 := own_r32 (((23552 : Int64) + (ushrL x (23 : Int32))) + u).toInt32
  have g6 := c_i2c (((23552 : Int64) + (ushrL x (23 : Int32))) + u).toInt32
  have g7 := c_i2c ((((23552 : Int64) + (ushrL x (23 : Int32))) + u).toInt32.toUInt32.toUInt16.toUInt32.toInt32)
  refine WP.l2i d1_50 (pc' := 51) rfl ?_
  refine WP.i2c d1_51 (pc' := 52) rfl ?_
  exact WP.retN d1_52 (t := .char) rfl (by simp) (by decide) (by decide) ⟨rfl, _, rfl, Or.inr ⟨by omega, by have e9 : (nar .char ((((23552 : Int64) + (ushrL x (23 : Int32))) + u).toInt32.toUInt32.toUInt16.toUInt32.toInt32)).toInt = 23552 + x.toInt / 8388608 + u.toInt := (show ((((23552 : Int64) + (ushrL x (23 : Int32))) + u).toInt32.toUInt32.toUInt16.toUInt32.toInt32.toUInt32.toUInt16.toUInt32.toInt32).toInt = _ by omega); rw [e9]; exact vk_23 x.toInt (x.toInt / 8388608) (x.toInt % 8388608) u.toInt _ (by omega) (by omega) f4 (by omega) rfl⟩⟩
theorem run_27_24 {l : Launch} {Z : State} {a0 : Array Value} (hw : HW Z a0) {n0 : Nat} {h : Heap} (x : Int64) (hx0 : 0 ≤ x.toInt) (h1 : 17179869184 ≤ x.toInt) (h2 : x.toInt < 34359738368) : WP l B1 Z n0 (fun v h' => h = h' ∧ ∃ r : Int32, v = some (.int r) ∧ ((4611686018427387904 ≤ x.toInt ∧ r.toInt = 65535) ∨ (x.toInt < 4611686018427387904 ∧ r.toInt ≤ 54272 ∧ 0 ≤ r.toInt ∧ x.toInt ≤ valF r.toInt ∧ (r.toInt = 0 ∨ valF (r.toInt - 1) < x.toInt)))) h 0 0 27 #[.val (.long x), .second, .val (.int (24 : Int32)), .unset, .unset] [] := by
  have k32_10 : (10 : Int32).toInt = 10 := by decide
  have k32_24 : (24 : Int32).toInt = 24 := by decide
  have k32_63 : (63 : Int32).toInt = 63 := by decide
  have k32_24576 : (24576 : Int32).toInt = 24576 := by decide
  have k64_1 : (1 : Int64).toInt = 1 := by decide
  have k64_24576 : (24576 : Int64).toInt = 24576 := by decide
  have k64_16777215 : (16777215 : Int64).toInt = 16777215 := by decide
  have k64_16777216 : (16777216 : Int64).toInt = 16777216 := by decide
  refine WP.lloadN d1_27 rfl (pc' := 28) rfl ?_
  refine WP.lconst1 d1_28 (pc' := 29) rfl ?_
  refine WP.iloadN d1_29 rfl (pc' := 30) rfl ?_
  refine WP.lshl d1_30 (pc' := 31) rfl ?_
  rw [show ((1 : Int64) <<< ((24 : Int32) &&& 63).toInt64) = (16777216 : Int64) from by decide]
  refine WP.lconst1 d1_31 (pc' := 32) rfl ?_
  refine WP.lsub d1_32 (pc' := 33) rfl ?_
  rw [show (((16777216 : Int64) - (1 : Int64)) : Int64) = (16777215 : Int64) from by decide]
  refine WP.land d1_33 (pc' := 34) rfl ?_
  refine WP.lneg d1_34 (pc' := 35) rfl ?_
  refine WP.bipush d1_35 (z := (63 : Int32)) rfl (pc' := 37) rfl ?_
  refine WP.lushr d1_37 (pc' := 38) rfl ?_
  obtain ⟨u, e_u⟩ : ∃ z, z = (ushrL (-(x &&& (16777215 : Int64))) (63 : Int32)) := ⟨_, rfl⟩
  rw [← e_u]
  refine WP.lstoreN d1_38 (pc' := 39) rfl (ls' := #[.val (.long x), .second, .val (.int (24 : Int32)), .val (.long u), .second]) rfl ?_
  have f1 : (x &&& (16777215 : Int64)).toInt = x.toInt % 16777216 := own_maskL _ _ 24 _ (by decide) (by decide) (by decide)
  have f2 : (-(x &&& (16777215 : Int64))).toInt = -(x.toInt % 16777216) := by have g1 := c_lneg (x &&& (16777215 : Int64)); have g2 := own_r64 (-(x &&& (16777215 : Int64))); omega
  have f3 : u.toInt = ((-(x &&& (16777215 : Int64))).toInt % 18446744073709551616) / 9223372036854775808 := by rw [e_u]; exact c_lushr _ 63 63 (by decide) (by decide)
  have f4 : (x.toInt % 16777216 = 0 ∧ u.toInt = 0) ∨ (0 < x.toInt % 16777216 ∧ u.toInt = 1) := by omega
  clear f1 f2 f3
  refine WP.iloadN d1_39 rfl (pc' := 40) rfl ?_
  refine WP.bipush d1_40 (z := (10 : Int32)) rfl (pc' := 42) rfl ?_
  refine WP.ishl d1_42 (pc' := 43) rfl ?_
  rw [show ((24 : Int32) <<< ((10 : Int32) &&& 31)) = (24576 : Int32) from by decide]
  refine WP.i2l d1_43 (pc' := 44) rfl ?_
  rw [show (24576 : Int32).toInt64 = (24576 : Int64) from by decide]
  refine WP.lloadN d1_44 rfl (pc' := 45) rfl ?_
  refine WP.iloadN d1_45 rfl (pc' := 46) rfl ?_
  refine WP.lushr d1_46 (pc' := 47) rfl ?_
  refine WP.ladd d1_47 (pc' := 48) rfl ?_
  refine WP.lloadN d1_48 rfl (pc' := 49) rfl ?_
  refine WP.ladd d1_49 (pc' := 50) rfl ?_
  have g1 : (ushrL x (24 : Int32)).toInt = x.toInt / 16777216 := by have q : (ushrL x (24 : Int32)).toInt = (x.toInt % 18446744073709551616) / 16777216 := c_lushr x (24 : Int32) 24 (by decide) (by decide); omega
  have g2 : ((24576 : Int64) + (ushrL x (24 : Int32))).toInt = 24576 + x.toInt / 16777216 := by rw [own_ladd] <;> omega
  have g3 : (((24576 : Int64) + (ushrL x (24 : Int32))) + u).toInt = 24576 + x.toInt / 16777216 + u.toInt := by rw [own_ladd] <;> omega
  have g4 := c_l2i (((24576 : Int64) + (ushrL x (24 : Int32))) + u)
  have g5 := own_r32 (((24576 : Int64) + (ushrL x (24 : Int32))) + u).toInt32
  have g6 := c_i2c (((24576 : Int64) + (ushrL x (24 : Int32))) + u).toInt32
  have g7 := c_i2c ((((24576 : Int64) + (ushrL x (24 : Int32))) + u).toInt32.toUInt32.toUInt16.toUInt32.toInt32)
  refine WP.l2i d1_50 (pc' := 51) rfl ?_
  refine WP.i2c d1_51 (pc' := 52) rfl ?_
  exact WP.retN d1_52 (t := .char) rfl (by simp) (by decide) (by decide) ⟨rfl, _, rfl, Or.inr ⟨by omega, by have e9 : (nar .char ((((24576 : Int64) + (ushrL x (24 : Int32))) + u).toInt32.toUInt32.toUInt16.toUInt32.toInt32)).toInt = 24576 + x.toInt / 16777216 + u.toInt := (show ((((24576 : Int64) + (ushrL x (24 : Int32))) + u).toInt32.toUInt32.toUInt16.toUInt32.toInt32.toUInt32.toUInt16.toUInt32.toInt32).toInt = _ by omega); rw [e9]; exact vk_24 x.toInt (x.toInt / 16777216) (x.toInt % 16777216) u.toInt _ (by omega) (by omega) f4 (by omega) rfl⟩⟩
theorem run_27_25 {l : Launch} {Z : State} {a0 : Array Value} (hw : HW Z a0) {n0 : Nat} {h : Heap} (x : Int64) (hx0 : 0 ≤ x.toInt) (h1 : 34359738368 ≤ x.toInt) (h2 : x.toInt < 68719476736) : WP l B1 Z n0 (fun v h' => h = h' ∧ ∃ r : Int32, v = some (.int r) ∧ ((4611686018427387904 ≤ x.toInt ∧ r.toInt = 65535) ∨ (x.toInt < 4611686018427387904 ∧ r.toInt ≤ 54272 ∧ 0 ≤ r.toInt ∧ x.toInt ≤ valF r.toInt ∧ (r.toInt = 0 ∨ valF (r.toInt - 1) < x.toInt)))) h 0 0 27 #[.val (.long x), .second, .val (.int (25 : Int32)), .unset, .unset] [] := by
  have k32_10 : (10 : Int32).toInt = 10 := by decide
  have k32_25 : (25 : Int32).toInt = 25 := by decide
  have k32_63 : (63 : Int32).toInt = 63 := by decide
  have k32_25600 : (25600 : Int32).toInt = 25600 := by decide
  have k64_1 : (1 : Int64).toInt = 1 := by decide
  have k64_25600 : (25600 : Int64).toInt = 25600 := by decide
  have k64_33554431 : (33554431 : Int64).toInt = 33554431 := by decide
  have k64_33554432 : (33554432 : Int64).toInt = 33554432 := by decide
  refine WP.lloadN d1_27 rfl (pc' := 28) rfl ?_
  refine WP.lconst1 d1_28 (pc' := 29) rfl ?_
  refine WP.iloadN d1_29 rfl (pc' := 30) rfl ?_
  refine WP.lshl d1_30 (pc' := 31) rfl ?_
  rw [show ((1 : Int64) <<< ((25 : Int32) &&& 63).toInt64) = (33554432 : Int64) from by decide]
  refine WP.lconst1 d1_31 (pc' := 32) rfl ?_
  refine WP.lsub d1_32 (pc' := 33) rfl ?_
  rw [show (((33554432 : Int64) - (1 : Int64)) : Int64) = (33554431 : Int64) from by decide]
  refine WP.land d1_33 (pc' := 34) rfl ?_
  refine WP.lneg d1_34 (pc' := 35) rfl ?_
  refine WP.bipush d1_35 (z := (63 : Int32)) rfl (pc' := 37) rfl ?_
  refine WP.lushr d1_37 (pc' := 38) rfl ?_
  obtain ⟨u, e_u⟩ : ∃ z, z = (ushrL (-(x &&& (33554431 : Int64))) (63 : Int32)) := ⟨_, rfl⟩
  rw [← e_u]
  refine WP.lstoreN d1_38 (pc' := 39) rfl (ls' := #[.val (.long x), .second, .val (.int (25 : Int32)), .val (.long u), .second]) rfl ?_
  have f1 : (x &&& (33554431 : Int64)).toInt = x.toInt % 33554432 := own_maskL _ _ 25 _ (by decide) (by decide) (by decide)
  have f2 : (-(x &&& (33554431 : Int64))).toInt = -(x.toInt % 33554432) := by have g1 := c_lneg (x &&& (33554431 : Int64)); have g2 := own_r64 (-(x &&& (33554431 : Int64))); omega
  have f3 : u.toInt = ((-(x &&& (33554431 : Int64))).toInt % 18446744073709551616) / 9223372036854775808 := by rw [e_u]; exact c_lushr _ 63 63 (by decide) (by decide)
  have f4 : (x.toInt % 33554432 = 0 ∧ u.toInt = 0) ∨ (0 < x.toInt % 33554432 ∧ u.toInt = 1) := by omega
  clear f1 f2 f3
  refine WP.iloadN d1_39 rfl (pc' := 40) rfl ?_
  refine WP.bipush d1_40 (z := (10 : Int32)) rfl (pc' := 42) rfl ?_
  refine WP.ishl d1_42 (pc' := 43) rfl ?_
  rw [show ((25 : Int32) <<< ((10 : Int32) &&& 31)) = (25600 : Int32) from by decide]
  refine WP.i2l d1_43 (pc' := 44) rfl ?_
  rw [show (25600 : Int32).toInt64 = (25600 : Int64) from by decide]
  refine WP.lloadN d1_44 rfl (pc' := 45) rfl ?_
  refine WP.iloadN d1_45 rfl (pc' := 46) rfl ?_
  refine WP.lushr d1_46 (pc' := 47) rfl ?_
  refine WP.ladd d1_47 (pc' := 48) rfl ?_
  refine WP.lloadN d1_48 rfl (pc' := 49) rfl ?_
  refine WP.ladd d1_49 (pc' := 50) rfl ?_
  have g1 : (ushrL x (25 : Int32)).toInt = x.toInt / 33554432 := by have q : (ushrL x (25 : Int32)).toInt = (x.toInt % 18446744073709551616) / 33554432 := c_lushr x (25 : Int32) 25 (by decide) (by decide); omega
  have g2 : ((25600 : Int64) + (ushrL x (25 : Int32))).toInt = 25600 + x.toInt / 33554432 := by rw [own_ladd] <;> omega
  have g3 : (((25600 : Int64) + (ushrL x (25 : Int32))) + u).toInt = 25600 + x.toInt / 33554432 + u.toInt := by rw [own_ladd] <;> omega
  have g4 := c_l2i (((25600 : Int64) + (ushrL x (25 : Int32))) + u)
  have g5 := own_r32 (((25600 : Int64) + (ushrL x (25 : Int32))) + u).toInt32
  have g6 := c_i2c (((25600 : Int64) + (ushrL x (25 : Int32))) + u).toInt32
  have g7 := c_i2c ((((25600 : Int64) + (ushrL x (25 : Int32))) + u).toInt32.toUInt32.toUInt16.toUInt32.toInt32)
  refine WP.l2i d1_50 (pc' := 51) rfl ?_
  refine WP.i2c d1_51 (pc' := 52) rfl ?_
  exact WP.retN d1_52 (t := .char) rfl (by simp) (by decide) (by decide) ⟨rfl, _, rfl, Or.inr ⟨by omega, by have e9 : (nar .char ((((25600 : Int64) + (ushrL x (25 : Int32))) + u).toInt32.toUInt32.toUInt16.toUInt32.toInt32)).toInt = 25600 + x.toInt / 33554432 + u.toInt := (show ((((25600 : Int64) + (ushrL x (25 : Int32))) + u).toInt32.toUInt32.toUInt16.toUInt32.toInt32.toUInt32.toUInt16.toUInt32.toInt32).toInt = _ by omega); rw [e9]; exact vk_25 x.toInt (x.toInt / 33554432) (x.toInt % 33554432) u.toInt _ (by omega) (by omega) f4 (by omega) rfl⟩⟩
theorem run_27_26 {l : Launch} {Z : State} {a0 : Array Value} (hw : HW Z a0) {n0 : Nat} {h : Heap} (x : Int64) (hx0 : 0 ≤ x.toInt) (h1 : 68719476736 ≤ x.toInt) (h2 : x.toInt < 137438953472) : WP l B1 Z n0 (fun v h' => h = h' ∧ ∃ r : Int32, v = some (.int r) ∧ ((4611686018427387904 ≤ x.toInt ∧ r.toInt = 65535) ∨ (x.toInt < 4611686018427387904 ∧ r.toInt ≤ 54272 ∧ 0 ≤ r.toInt ∧ x.toInt ≤ valF r.toInt ∧ (r.toInt = 0 ∨ valF (r.toInt - 1) < x.toInt)))) h 0 0 27 #[.val (.long x), .second, .val (.int (26 : Int32)), .unset, .unset] [] := by
  have k32_10 : (10 : Int32).toInt = 10 := by decide
  have k32_26 : (26 : Int32).toInt = 26 := by decide
  have k32_63 : (63 : Int32).toInt = 63 := by decide
  have k32_26624 : (26624 : Int32).toInt = 26624 := by decide
  have k64_1 : (1 : Int64).toInt = 1 := by decide
  have k64_26624 : (26624 : Int64).toInt = 26624 := by decide
  have k64_67108863 : (67108863 : Int64).toInt = 67108863 := by decide
  have k64_67108864 : (67108864 : Int64).toInt = 67108864 := by decide
  refine WP.lloadN d1_27 rfl (pc' := 28) rfl ?_
  refine WP.lconst1 d1_28 (pc' := 29) rfl ?_
  refine WP.iloadN d1_29 rfl (pc' := 30) rfl ?_
  refine WP.lshl d1_30 (pc' := 31) rfl ?_
  rw [show ((1 : Int64) <<< ((26 : Int32) &&& 63).toInt64) = (67108864 : Int64) from by decide]
  refine WP.lconst1 d1_31 (pc' := 32) rfl ?_
  refine WP.lsub d1_32 (pc' := 33) rfl ?_
  rw [show (((67108864 : Int64) - (1 : Int64)) : Int64) = (67108863 : Int64) from by decide]
  refine WP.land d1_33 (pc' := 34) rfl ?_
  refine WP.lneg d1_34 (pc' := 35) rfl ?_
  refine WP.bipush d1_35 (z := (63 : Int32)) rfl (pc' := 37) rfl ?_
  refine WP.lushr d1_37 (pc' := 38) rfl ?_
  obtain ⟨u, e_u⟩ : ∃ z, z = (ushrL (-(x &&& (67108863 : Int64))) (63 : Int32)) := ⟨_, rfl⟩
  rw [← e_u]
  refine WP.lstoreN d1_38 (pc' := 39) rfl (ls' := #[.val (.long x), .second, .val (.int (26 : Int32)), .val (.long u), .second]) rfl ?_
  have f1 : (x &&& (67108863 : Int64)).toInt = x.toInt % 67108864 := own_maskL _ _ 26 _ (by decide) (by decide) (by decide)
  have f2 : (-(x &&& (67108863 : Int64))).toInt = -(x.toInt % 67108864) := by have g1 := c_lneg (x &&& (67108863 : Int64)); have g2 := own_r64 (-(x &&& (67108863 : Int64))); omega
  have f3 : u.toInt = ((-(x &&& (67108863 : Int64))).toInt % 18446744073709551616) / 9223372036854775808 := by rw [e_u]; exact c_lushr _ 63 63 (by decide) (by decide)
  have f4 : (x.toInt % 67108864 = 0 ∧ u.toInt = 0) ∨ (0 < x.toInt % 67108864 ∧ u.toInt = 1) := by omega
  clear f1 f2 f3
  refine WP.iloadN d1_39 rfl (pc' := 40) rfl ?_
  refine WP.bipush d1_40 (z := (10 : Int32)) rfl (pc' := 42) rfl ?_
  refine WP.ishl d1_42 (pc' := 43) rfl ?_
  rw [show ((26 : Int32) <<< ((10 : Int32) &&& 31)) = (26624 : Int32) from by decide]
  refine WP.i2l d1_43 (pc' := 44) rfl ?_
  rw [show (26624 : Int32).toInt64 = (26624 : Int64) from by decide]
  refine WP.lloadN d1_44 rfl (pc' := 45) rfl ?_
  refine WP.iloadN d1_45 rfl (pc' := 46) rfl ?_
  refine WP.lushr d1_46 (pc' := 47) rfl ?_
  refine WP.ladd d1_47 (pc' := 48) rfl ?_
  refine WP.lloadN d1_48 rfl (pc' := 49) rfl ?_
  refine WP.ladd d1_49 (pc' := 50) rfl ?_
  have g1 : (ushrL x (26 : Int32)).toInt = x.toInt / 67108864 := by have q : (ushrL x (26 : Int32)).toInt = (x.toInt % 18446744073709551616) / 67108864 := c_lushr x (26 : Int32) 26 (by decide) (by decide); omega
  have g2 : ((26624 : Int64) + (ushrL x (26 : Int32))).toInt = 26624 + x.toInt / 67108864 := by rw [own_ladd] <;> omega
  have g3 : (((26624 : Int64) + (ushrL x (26 : Int32))) + u).toInt = 26624 + x.toInt / 67108864 + u.toInt := by rw [own_ladd] <;> omega
  have g4 := c_l2i (((26624 : Int64) + (ushrL x (26 : Int32))) + u)
  have g5 := own_r32 (((26624 : Int64) + (ushrL x (26 : Int32))) + u).toInt32
  have g6 := c_i2c (((26624 : Int64) + (ushrL x (26 : Int32))) + u).toInt32
  have g7 := c_i2c ((((26624 : Int64) + (ushrL x (26 : Int32))) + u).toInt32.toUInt32.toUInt16.toUInt32.toInt32)
  refine WP.l2i d1_50 (pc' := 51) rfl ?_
  refine WP.i2c d1_51 (pc' := 52) rfl ?_
  exact WP.retN d1_52 (t := .char) rfl (by simp) (by decide) (by decide) ⟨rfl, _, rfl, Or.inr ⟨by omega, by have e9 : (nar .char ((((26624 : Int64) + (ushrL x (26 : Int32))) + u).toInt32.toUInt32.toUInt16.toUInt32.toInt32)).toInt = 26624 + x.toInt / 67108864 + u.toInt := (show ((((26624 : Int64) + (ushrL x (26 : Int32))) + u).toInt32.toUInt32.toUInt16.toUInt32.toInt32.toUInt32.toUInt16.toUInt32.toInt32).toInt = _ by omega); rw [e9]; exact vk_26 x.toInt (x.toInt / 67108864) (x.toInt % 67108864) u.toInt _ (by omega) (by omega) f4 (by omega) rfl⟩⟩
theorem run_27_27 {l : Launch} {Z : State} {a0 : Array Value} (hw : HW Z a0) {n0 : Nat} {h : Heap} (x : Int64) (hx0 : 0 ≤ x.toInt) (h1 : 137438953472 ≤ x.toInt) (h2 : x.toInt < 274877906944) : WP l B1 Z n0 (fun v h' => h = h' ∧ ∃ r : Int32, v = some (.int r) ∧ ((4611686018427387904 ≤ x.toInt ∧ r.toInt = 65535) ∨ (x.toInt < 4611686018427387904 ∧ r.toInt ≤ 54272 ∧ 0 ≤ r.toInt ∧ x.toInt ≤ valF r.toInt ∧ (r.toInt = 0 ∨ valF (r.toInt - 1) < x.toInt)))) h 0 0 27 #[.val (.long x), .second, .val (.int (27 : Int32)), .unset, .unset] [] := by
  have k32_10 : (10 : Int32).toInt = 10 := by decide
  have k32_27 : (27 : Int32).toInt = 27 := by decide
  have k32_63 : (63 : Int32).toInt = 63 := by decide
  have k32_27648 : (27648 : Int32).toInt = 27648 := by decide
  have k64_1 : (1 : Int64).toInt = 1 := by decide
  have k64_27648 : (27648 : Int64).toInt = 27648 := by decide
  have k64_134217727 : (134217727 : Int64).toInt = 134217727 := by decide
  have k64_134217728 : (134217728 : Int64).toInt = 134217728 := by decide
  refine WP.lloadN d1_27 rfl (pc' := 28) rfl ?_
  refine WP.lconst1 d1_28 (pc' := 29) rfl ?_
  refine WP.iloadN d1_29 rfl (pc' := 30) rfl ?_
  refine WP.lshl d1_30 (pc' := 31) rfl ?_
  rw [show ((1 : Int64) <<< ((27 : Int32) &&& 63).toInt64) = (134217728 : Int64) from by decide]
  refine WP.lconst1 d1_31 (pc' := 32) rfl ?_
  refine WP.lsub d1_32 (pc' := 33) rfl ?_
  rw [show (((134217728 : Int64) - (1 : Int64)) : Int64) = (134217727 : Int64) from by decide]
  refine WP.land d1_33 (pc' := 34) rfl ?_
  refine WP.lneg d1_34 (pc' := 35) rfl ?_
  refine WP.bipush d1_35 (z := (63 : Int32)) rfl (pc' := 37) rfl ?_
  refine WP.lushr d1_37 (pc' := 38) rfl ?_
  obtain ⟨u, e_u⟩ : ∃ z, z = (ushrL (-(x &&& (134217727 : Int64))) (63 : Int32)) := ⟨_, rfl⟩
  rw [← e_u]
  refine WP.lstoreN d1_38 (pc' := 39) rfl (ls' := #[.val (.long x), .second, .val (.int (27 : Int32)), .val (.long u), .second]) rfl ?_
  have f1 : (x &&& (134217727 : Int64)).toInt = x.toInt % 134217728 := own_maskL _ _ 27 _ (by decide) (by decide) (by decide)
  have f2 : (-(x &&& (134217727 : Int64))).toInt = -(x.toInt % 134217728) := by have g1 := c_lneg (x &&& (134217727 : Int64)); have g2 := own_r64 (-(x &&& (134217727 : Int64))); omega
  have f3 : u.toInt = ((-(x &&& (134217727 : Int64))).toInt % 18446744073709551616) / 9223372036854775808 := by rw [e_u]; exact c_lushr _ 63 63 (by decide) (by decide)
  have f4 : (x.toInt % 134217728 = 0 ∧ u.toInt = 0) ∨ (0 < x.toInt % 134217728 ∧ u.toInt = 1) := by omega
  clear f1 f2 f3
  refine WP.iloadN d1_39 rfl (pc' := 40) rfl ?_
  refine WP.bipush d1_40 (z := (10 : Int32)) rfl (pc' := 42) rfl ?_
  refine WP.ishl d1_42 (pc' := 43) rfl ?_
  rw [show ((27 : Int32) <<< ((10 : Int32) &&& 31)) = (27648 : Int32) from by decide]
  refine WP.i2l d1_43 (pc' := 44) rfl ?_
  rw [show (27648 : Int32).toInt64 = (27648 : Int64) from by decide]
  refine WP.lloadN d1_44 rfl (pc' := 45) rfl ?_
  refine WP.iloadN d1_45 rfl (pc' := 46) rfl ?_
  refine WP.lushr d1_46 (pc' := 47) rfl ?_
  refine WP.ladd d1_47 (pc' := 48) rfl ?_
  refine WP.lloadN d1_48 rfl (pc' := 49) rfl ?_
  refine WP.ladd d1_49 (pc' := 50) rfl ?_
  have g1 : (ushrL x (27 : Int32)).toInt = x.toInt / 134217728 := by have q : (ushrL x (27 : Int32)).toInt = (x.toInt % 18446744073709551616) / 134217728 := c_lushr x (27 : Int32) 27 (by decide) (by decide); omega
  have g2 : ((27648 : Int64) + (ushrL x (27 : Int32))).toInt = 27648 + x.toInt / 134217728 := by rw [own_ladd] <;> omega
  have g3 : (((27648 : Int64) + (ushrL x (27 : Int32))) + u).toInt = 27648 + x.toInt / 134217728 + u.toInt := by rw [own_ladd] <;> omega
  have g4 := c_l2i (((27648 : Int64) + (ushrL x (27 : Int32))) + u)
  have g5 := own_r32 (((27648 : Int64) + (ushrL x (27 : Int32))) + u).toInt32
  have g6 := c_i2c (((27648 : Int64) + (ushrL x (27 : Int32))) + u).toInt32
  have g7 := c_i2c ((((27648 : Int64) + (ushrL x (27 : Int32))) + u).toInt32.toUInt32.toUInt16.toUInt32.toInt32)
  refine WP.l2i d1_50 (pc' := 51) rfl ?_
  refine WP.i2c d1_51 (pc' := 52) rfl ?_
  exact WP.retN d1_52 (t := .char) rfl (by simp) (by decide) (by decide) ⟨rfl, _, rfl, Or.inr ⟨by omega, by have e9 : (nar .char ((((27648 : Int64) + (ushrL x (27 : Int32))) + u).toInt32.toUInt32.toUInt16.toUInt32.toInt32)).toInt = 27648 + x.toInt / 134217728 + u.toInt := (show ((((27648 : Int64) + (ushrL x (27 : Int32))) + u).toInt32.toUInt32.toUInt16.toUInt32.toInt32.toUInt32.toUInt16.toUInt32.toInt32).toInt = _ by omega); rw [e9]; exact vk_27 x.toInt (x.toInt / 134217728) (x.toInt % 134217728) u.toInt _ (by omega) (by omega) f4 (by omega) rfl⟩⟩
theorem run_27_28 {l : Launch} {Z : State} {a0 : Array Value} (hw : HW Z a0) {n0 : Nat} {h : Heap} (x : Int64) (hx0 : 0 ≤ x.toInt) (h1 : 274877906944 ≤ x.toInt) (h2 : x.toInt < 549755813888) : WP l B1 Z n0 (fun v h' => h = h' ∧ ∃ r : Int32, v = some (.int r) ∧ ((4611686018427387904 ≤ x.toInt ∧ r.toInt = 65535) ∨ (x.toInt < 4611686018427387904 ∧ r.toInt ≤ 54272 ∧ 0 ≤ r.toInt ∧ x.toInt ≤ valF r.toInt ∧ (r.toInt = 0 ∨ valF (r.toInt - 1) < x.toInt)))) h 0 0 27 #[.val (.long x), .second, .val (.int (28 : Int32)), .unset, .unset] [] := by
  have k32_10 : (10 : Int32).toInt = 10 := by decide
  have k32_28 : (28 : Int32).toInt = 28 := by decide
  have k32_63 : (63 : Int32).toInt = 63 := by decide
  have k32_28672 : (28672 : Int32).toInt = 28672 := by decide
  have k64_1 : (1 : Int64).toInt = 1 := by decide
  have k64_28672 : (28672 : Int64).toInt = 28672 := by decide
  have k64_268435455 : (268435455 : Int64).toInt = 268435455 := by decide
  have k64_268435456 : (268435456 : Int64).toInt = 268435456 := by decide
  refine WP.lloadN d1_27 rfl (pc' := 28) rfl ?_
  refine WP.lconst1 d1_28 (pc' := 29) rfl ?_
  refine WP.iloadN d1_29 rfl (pc' := 30) rfl ?_
  refine WP.lshl d1_30 (pc' := 31) rfl ?_
  rw [show ((1 : Int64) <<< ((28 : Int32) &&& 63).toInt64) = (268435456 : Int64) from by decide]
  refine WP.lconst1 d1_31 (pc' := 32) rfl ?_
  refine WP.lsub d1_32 (pc' := 33) rfl ?_
  rw [show (((268435456 : Int64) - (1 : Int64)) : Int64) = (268435455 : Int64) from by decide]
  refine WP.land d1_33 (pc' := 34) rfl ?_
  refine WP.lneg d1_34 (pc' := 35) rfl ?_
  refine WP.bipush d1_35 (z := (63 : Int32)) rfl (pc' := 37) rfl ?_
  refine WP.lushr d1_37 (pc' := 38) rfl ?_
  obtain ⟨u, e_u⟩ : ∃ z, z = (ushrL (-(x &&& (268435455 : Int64))) (63 : Int32)) := ⟨_, rfl⟩
  rw [← e_u]
  refine WP.lstoreN d1_38 (pc' := 39) rfl (ls' := #[.val (.long x), .second, .val (.int (28 : Int32)), .val (.long u), .second]) rfl ?_
  have f1 : (x &&& (268435455 : Int64)).toInt = x.toInt % 268435456 := own_maskL _ _ 28 _ (by decide) (by decide) (by decide)
  have f2 : (-(x &&& (268435455 : Int64))).toInt = -(x.toInt % 268435456) := by have g1 := c_lneg (x &&& (268435455 : Int64)); have g2 := own_r64 (-(x &&& (268435455 : Int64))); omega
  have f3 : u.toInt = ((-(x &&& (268435455 : Int64))).toInt % 18446744073709551616) / 9223372036854775808 := by rw [e_u]; exact c_lushr _ 63 63 (by decide) (by decide)
  have f4 : (x.toInt % 268435456 = 0 ∧ u.toInt = 0) ∨ (0 < x.toInt % 268435456 ∧ u.toInt = 1) := by omega
  clear f1 f2 f3
  refine WP.iloadN d1_39 rfl (pc' := 40) rfl ?_
  refine WP.bipush d1_40 (z := (10 : Int32)) rfl (pc' := 42) rfl ?_
  refine WP.ishl d1_42 (pc' := 43) rfl ?_
  rw [show ((28 : Int32) <<< ((10 : Int32) &&& 31)) = (28672 : Int32) from by decide]
  refine WP.i2l d1_43 (pc' := 44) rfl ?_
  rw [show (28672 : Int32).toInt64 = (28672 : Int64) from by decide]
  refine WP.lloadN d1_44 rfl (pc' := 45) rfl ?_
  refine WP.iloadN d1_45 rfl (pc' := 46) rfl ?_
  refine WP.lushr d1_46 (pc' := 47) rfl ?_
  refine WP.ladd d1_47 (pc' := 48) rfl ?_
  refine WP.lloadN d1_48 rfl (pc' := 49) rfl ?_
  refine WP.ladd d1_49 (pc' := 50) rfl ?_
  have g1 : (ushrL x (28 : Int32)).toInt = x.toInt / 268435456 := by have q : (ushrL x (28 : Int32)).toInt = (x.toInt % 18446744073709551616) / 268435456 := c_lushr x (28 : Int32) 28 (by decide) (by decide); omega
  have g2 : ((28672 : Int64) + (ushrL x (28 : Int32))).toInt = 28672 + x.toInt / 268435456 := by rw [own_ladd] <;> omega
  have g3 : (((28672 : Int64) + (ushrL x (28 : Int32))) + u).toInt = 28672 + x.toInt / 268435456 + u.toInt := by rw [own_ladd] <;> omega
  have g4 := c_l2i (((28672 : Int64) + (ushrL x (28 : Int32))) + u)
  have g5 := own_r32 (((28672 : Int64) + (ushrL x (28 : Int32))) + u).toInt32
  have g6 := c_i2c (((28672 : Int64) + (ushrL x (28 : Int32))) + u).toInt32
  have g7 := c_i2c ((((28672 : Int64) + (ushrL x (28 : Int32))) + u).toInt32.toUInt32.toUInt16.toUInt32.toInt32)
  refine WP.l2i d1_50 (pc' := 51) rfl ?_
  refine WP.i2c d1_51 (pc' := 52) rfl ?_
  exact WP.retN d1_52 (t := .char) rfl (by simp) (by decide) (by decide) ⟨rfl, _, rfl, Or.inr ⟨by omega, by have e9 : (nar .char ((((28672 : Int64) + (ushrL x (28 : Int32))) + u).toInt32.toUInt32.toUInt16.toUInt32.toInt32)).toInt = 28672 + x.toInt / 268435456 + u.toInt := (show ((((28672 : Int64) + (ushrL x (28 : Int32))) + u).toInt32.toUInt32.toUInt16.toUInt32.toInt32.toUInt32.toUInt16.toUInt32.toInt32).toInt = _ by omega); rw [e9]; exact vk_28 x.toInt (x.toInt / 268435456) (x.toInt % 268435456) u.toInt _ (by omega) (by omega) f4 (by omega) rfl⟩⟩
theorem run_27_29 {l : Launch} {Z : State} {a0 : Array Value} (hw : HW Z a0) {n0 : Nat} {h : Heap} (x : Int64) (hx0 : 0 ≤ x.toInt) (h1 : 549755813888 ≤ x.toInt) (h2 : x.toInt < 1099511627776) : WP l B1 Z n0 (fun v h' => h = h' ∧ ∃ r : Int32, v = some (.int r) ∧ ((4611686018427387904 ≤ x.toInt ∧ r.toInt = 65535) ∨ (x.toInt < 4611686018427387904 ∧ r.toInt ≤ 54272 ∧ 0 ≤ r.toInt ∧ x.toInt ≤ valF r.toInt ∧ (r.toInt = 0 ∨ valF (r.toInt - 1) < x.toInt)))) h 0 0 27 #[.val (.long x), .second, .val (.int (29 : Int32)), .unset, .unset] [] := by
  have k32_10 : (10 : Int32).toInt = 10 := by decide
  have k32_29 : (29 : Int32).toInt = 29 := by decide
  have k32_63 : (63 : Int32).toInt = 63 := by decide
  have k32_29696 : (29696 : Int32).toInt = 29696 := by decide
  have k64_1 : (1 : Int64).toInt = 1 := by decide
  have k64_29696 : (29696 : Int64).toInt = 29696 := by decide
  have k64_536870911 : (536870911 : Int64).toInt = 536870911 := by decide
  have k64_536870912 : (536870912 : Int64).toInt = 536870912 := by decide
  refine WP.lloadN d1_27 rfl (pc' := 28) rfl ?_
  refine WP.lconst1 d1_28 (pc' := 29) rfl ?_
  refine WP.iloadN d1_29 rfl (pc' := 30) rfl ?_
  refine WP.lshl d1_30 (pc' := 31) rfl ?_
  rw [show ((1 : Int64) <<< ((29 : Int32) &&& 63).toInt64) = (536870912 : Int64) from by decide]
  refine WP.lconst1 d1_31 (pc' := 32) rfl ?_
  refine WP.lsub d1_32 (pc' := 33) rfl ?_
  rw [show (((536870912 : Int64) - (1 : Int64)) : Int64) = (536870911 : Int64) from by decide]
  refine WP.land d1_33 (pc' := 34) rfl ?_
  refine WP.lneg d1_34 (pc' := 35) rfl ?_
  refine WP.bipush d1_35 (z := (63 : Int32)) rfl (pc' := 37) rfl ?_
  refine WP.lushr d1_37 (pc' := 38) rfl ?_
  obtain ⟨u, e_u⟩ : ∃ z, z = (ushrL (-(x &&& (536870911 : Int64))) (63 : Int32)) := ⟨_, rfl⟩
  rw [← e_u]
  refine WP.lstoreN d1_38 (pc' := 39) rfl (ls' := #[.val (.long x), .second, .val (.int (29 : Int32)), .val (.long u), .second]) rfl ?_
  have f1 : (x &&& (536870911 : Int64)).toInt = x.toInt % 536870912 := own_maskL _ _ 29 _ (by decide) (by decide) (by decide)
  have f2 : (-(x &&& (536870911 : Int64))).toInt = -(x.toInt % 536870912) := by have g1 := c_lneg (x &&& (536870911 : Int64)); have g2 := own_r64 (-(x &&& (536870911 : Int64))); omega
  have f3 : u.toInt = ((-(x &&& (536870911 : Int64))).toInt % 18446744073709551616) / 9223372036854775808 := by rw [e_u]; exact c_lushr _ 63 63 (by decide) (by decide)
  have f4 : (x.toInt % 536870912 = 0 ∧ u.toInt = 0) ∨ (0 < x.toInt % 536870912 ∧ u.toInt = 1) := by omega
  clear f1 f2 f3
  refine WP.iloadN d1_39 rfl (pc' := 40) rfl ?_
  refine WP.bipush d1_40 (z := (10 : Int32)) rfl (pc' := 42) rfl ?_
  refine WP.ishl d1_42 (pc' := 43) rfl ?_
  rw [show ((29 : Int32) <<< ((10 : Int32) &&& 31)) = (29696 : Int32) from by decide]
  refine WP.i2l d1_43 (pc' := 44) rfl ?_
  rw [show (29696 : Int32).toInt64 = (29696 : Int64) from by decide]
  refine WP.lloadN d1_44 rfl (pc' := 45) rfl ?_
  refine WP.iloadN d1_45 rfl (pc' := 46) rfl ?_
  refine WP.lushr d1_46 (pc' := 47) rfl ?_
  refine WP.ladd d1_47 (pc' := 48) rfl ?_
  refine WP.lloadN d1_48 rfl (pc' := 49) rfl ?_
  refine WP.ladd d1_49 (pc' := 50) rfl ?_
  have g1 : (ushrL x (29 : Int32)).toInt = x.toInt / 536870912 := by have q : (ushrL x (29 : Int32)).toInt = (x.toInt % 18446744073709551616) / 536870912 := c_lushr x (29 : Int32) 29 (by decide) (by decide); omega
  have g2 : ((29696 : Int64) + (ushrL x (29 : Int32))).toInt = 29696 + x.toInt / 536870912 := by rw [own_ladd] <;> omega
  have g3 : (((29696 : Int64) + (ushrL x (29 : Int32))) + u).toInt = 29696 + x.toInt / 536870912 + u.toInt := by rw [own_ladd] <;> omega
  have g4 := c_l2i (((29696 : Int64) + (ushrL x (29 : Int32))) + u)
  have g5 := own_r32 (((29696 : Int64) + (ushrL x (29 : Int32))) + u).toInt32
  have g6 := c_i2c (((29696 : Int64) + (ushrL x (29 : Int32))) + u).toInt32
  have g7 := c_i2c ((((29696 : Int64) + (ushrL x (29 : Int32))) + u).toInt32.toUInt32.toUInt16.toUInt32.toInt32)
  refine WP.l2i d1_50 (pc' := 51) rfl ?_
  refine WP.i2c d1_51 (pc' := 52) rfl ?_
  exact WP.retN d1_52 (t := .char) rfl (by simp) (by decide) (by decide) ⟨rfl, _, rfl, Or.inr ⟨by omega, by have e9 : (nar .char ((((29696 : Int64) + (ushrL x (29 : Int32))) + u).toInt32.toUInt32.toUInt16.toUInt32.toInt32)).toInt = 29696 + x.toInt / 536870912 + u.toInt := (show ((((29696 : Int64) + (ushrL x (29 : Int32))) + u).toInt32.toUInt32.toUInt16.toUInt32.toInt32.toUInt32.toUInt16.toUInt32.toInt32).toInt = _ by omega); rw [e9]; exact vk_29 x.toInt (x.toInt / 536870912) (x.toInt % 536870912) u.toInt _ (by omega) (by omega) f4 (by omega) rfl⟩⟩
theorem run_27_30 {l : Launch} {Z : State} {a0 : Array Value} (hw : HW Z a0) {n0 : Nat} {h : Heap} (x : Int64) (hx0 : 0 ≤ x.toInt) (h1 : 1099511627776 ≤ x.toInt) (h2 : x.toInt < 2199023255552) : WP l B1 Z n0 (fun v h' => h = h' ∧ ∃ r : Int32, v = some (.int r) ∧ ((4611686018427387904 ≤ x.toInt ∧ r.toInt = 65535) ∨ (x.toInt < 4611686018427387904 ∧ r.toInt ≤ 54272 ∧ 0 ≤ r.toInt ∧ x.toInt ≤ valF r.toInt ∧ (r.toInt = 0 ∨ valF (r.toInt - 1) < x.toInt)))) h 0 0 27 #[.val (.long x), .second, .val (.int (30 : Int32)), .unset, .unset] [] := by
  have k32_10 : (10 : Int32).toInt = 10 := by decide
  have k32_30 : (30 : Int32).toInt = 30 := by decide
  have k32_63 : (63 : Int32).toInt = 63 := by decide
  have k32_30720 : (30720 : Int32).toInt = 30720 := by decide
  have k64_1 : (1 : Int64).toInt = 1 := by decide
  have k64_30720 : (30720 : Int64).toInt = 30720 := by decide
  have k64_1073741823 : (1073741823 : Int64).toInt = 1073741823 := by decide
  have k64_1073741824 : (1073741824 : Int64).toInt = 1073741824 := by decide
  refine WP.lloadN d1_27 rfl (pc' := 28) rfl ?_
  refine WP.lconst1 d1_28 (pc' := 29) rfl ?_
  refine WP.iloadN d1_29 rfl (pc' := 30) rfl ?_
  refine WP.lshl d1_30 (pc' := 31) rfl ?_
  rw [show ((1 : Int64) <<< ((30 : Int32) &&& 63).toInt64) = (1073741824 : Int64) from by decide]
  refine WP.lconst1 d1_31 (pc' := 32) rfl ?_
  refine WP.lsub d1_32 (pc' := 33) rfl ?_
  rw [show (((1073741824 : Int64) - (1 : Int64)) : Int64) = (1073741823 : Int64) from by decide]
  refine WP.land d1_33 (pc' := 34) rfl ?_
  refine WP.lneg d1_34 (pc' := 35) rfl ?_
  refine WP.bipush d1_35 (z := (63 : Int32)) rfl (pc' := 37) rfl ?_
  refine WP.lushr d1_37 (pc' := 38) rfl ?_
  obtain ⟨u, e_u⟩ : ∃ z, z = (ushrL (-(x &&& (1073741823 : Int64))) (63 : Int32)) := ⟨_, rfl⟩
  rw [← e_u]
  refine WP.lstoreN d1_38 (pc' := 39) rfl (ls' := #[.val (.long x), .second, .val (.int (30 : Int32)), .val (.long u), .second]) rfl ?_
  have f1 : (x &&& (1073741823 : Int64)).toInt = x.toInt % 1073741824 := own_maskL _ _ 30 _ (by decide) (by decide) (by decide)
  have f2 : (-(x &&& (1073741823 : Int64))).toInt = -(x.toInt % 1073741824) := by have g1 := c_lneg (x &&& (1073741823 : Int64)); have g2 := own_r64 (-(x &&& (1073741823 : Int64))); omega
  have f3 : u.toInt = ((-(x &&& (1073741823 : Int64))).toInt % 18446744073709551616) / 9223372036854775808 := by rw [e_u]; exact c_lushr _ 63 63 (by decide) (by decide)
  have f4 : (x.toInt % 1073741824 = 0 ∧ u.toInt = 0) ∨ (0 < x.toInt % 1073741824 ∧ u.toInt = 1) := by omega
  clear f1 f2 f3
  refine WP.iloadN d1_39 rfl (pc' := 40) rfl ?_
  refine WP.bipush d1_40 (z := (10 : Int32)) rfl (pc' := 42) rfl ?_
  refine WP.ishl d1_42 (pc' := 43) rfl ?_
  rw [show ((30 : Int32) <<< ((10 : Int32) &&& 31)) = (30720 : Int32) from by decide]
  refine WP.i2l d1_43 (pc' := 44) rfl ?_
  rw [show (30720 : Int32).toInt64 = (30720 : Int64) from by decide]
  refine WP.lloadN d1_44 rfl (pc' := 45) rfl ?_
  refine WP.iloadN d1_45 rfl (pc' := 46) rfl ?_
  refine WP.lushr d1_46 (pc' := 47) rfl ?_
  refine WP.ladd d1_47 (pc' := 48) rfl ?_
  refine WP.lloadN d1_48 rfl (pc' := 49) rfl ?_
  refine WP.ladd d1_49 (pc' := 50) rfl ?_
  have g1 : (ushrL x (30 : Int32)).toInt = x.toInt / 1073741824 := by have q : (ushrL x (30 : Int32)).toInt = (x.toInt % 18446744073709551616) / 1073741824 := c_lushr x (30 : Int32) 30 (by decide) (by decide); omega
  have g2 : ((30720 : Int64) + (ushrL x (30 : Int32))).toInt = 30720 + x.toInt / 1073741824 := by rw [own_ladd] <;> omega
  have g3 : (((30720 : Int64) + (ushrL x (30 : Int32))) + u).toInt = 30720 + x.toInt / 1073741824 + u.toInt := by rw [own_ladd] <;> omega
  have g4 := c_l2i (((30720 : Int64) + (ushrL x (30 : Int32))) + u)
  have g5 := own_r32 (((30720 : Int64) + (ushrL x (30 : Int32))) + u).toInt32
  have g6 := c_i2c (((30720 : Int64) + (ushrL x (30 : Int32))) + u).toInt32
  have g7 := c_i2c ((((30720 : Int64) + (ushrL x (30 : Int32))) + u).toInt32.toUInt32.toUInt16.toUInt32.toInt32)
  refine WP.l2i d1_50 (pc' := 51) rfl ?_
  refine WP.i2c d1_51 (pc' := 52) rfl ?_
  exact WP.retN d1_52 (t := .char) rfl (by simp) (by decide) (by decide) ⟨rfl, _, rfl, Or.inr ⟨by omega, by have e9 : (nar .char ((((30720 : Int64) + (ushrL x (30 : Int32))) + u).toInt32.toUInt32.toUInt16.toUInt32.toInt32)).toInt = 30720 + x.toInt / 1073741824 + u.toInt := (show ((((30720 : Int64) + (ushrL x (30 : Int32))) + u).toInt32.toUInt32.toUInt16.toUInt32.toInt32.toUInt32.toUInt16.toUInt32.toInt32).toInt = _ by omega); rw [e9]; exact vk_30 x.toInt (x.toInt / 1073741824) (x.toInt % 1073741824) u.toInt _ (by omega) (by omega) f4 (by omega) rfl⟩⟩
theorem run_27_31 {l : Launch} {Z : State} {a0 : Array Value} (hw : HW Z a0) {n0 : Nat} {h : Heap} (x : Int64) (hx0 : 0 ≤ x.toInt) (h1 : 2199023255552 ≤ x.toInt) (h2 : x.toInt < 4398046511104) : WP l B1 Z n0 (fun v h' => h = h' ∧ ∃ r : Int32, v = some (.int r) ∧ ((4611686018427387904 ≤ x.toInt ∧ r.toInt = 65535) ∨ (x.toInt < 4611686018427387904 ∧ r.toInt ≤ 54272 ∧ 0 ≤ r.toInt ∧ x.toInt ≤ valF r.toInt ∧ (r.toInt = 0 ∨ valF (r.toInt - 1) < x.toInt)))) h 0 0 27 #[.val (.long x), .second, .val (.int (31 : Int32)), .unset, .unset] [] := by
  have k32_10 : (10 : Int32).toInt = 10 := by decide
  have k32_31 : (31 : Int32).toInt = 31 := by decide
  have k32_63 : (63 : Int32).toInt = 63 := by decide
  have k32_31744 : (31744 : Int32).toInt = 31744 := by decide
  have k64_1 : (1 : Int64).toInt = 1 := by decide
  have k64_31744 : (31744 : Int64).toInt = 31744 := by decide
  have k64_2147483647 : (2147483647 : Int64).toInt = 2147483647 := by decide
  have k64_2147483648 : (2147483648 : Int64).toInt = 2147483648 := by decide
  refine WP.lloadN d1_27 rfl (pc' := 28) rfl ?_
  refine WP.lconst1 d1_28 (pc' := 29) rfl ?_
  refine WP.iloadN d1_29 rfl (pc' := 30) rfl ?_
  refine WP.lshl d1_30 (pc' := 31) rfl ?_
  rw [show ((1 : Int64) <<< ((31 : Int32) &&& 63).toInt64) = (2147483648 : Int64) from by decide]
  refine WP.lconst1 d1_31 (pc' := 32) rfl ?_
  refine WP.lsub d1_32 (pc' := 33) rfl ?_
  rw [show (((2147483648 : Int64) - (1 : Int64)) : Int64) = (2147483647 : Int64) from by decide]
  refine WP.land d1_33 (pc' := 34) rfl ?_
  refine WP.lneg d1_34 (pc' := 35) rfl ?_
  refine WP.bipush d1_35 (z := (63 : Int32)) rfl (pc' := 37) rfl ?_
  refine WP.lushr d1_37 (pc' := 38) rfl ?_
  obtain ⟨u, e_u⟩ : ∃ z, z = (ushrL (-(x &&& (2147483647 : Int64))) (63 : Int32)) := ⟨_, rfl⟩
  rw [← e_u]
  refine WP.lstoreN d1_38 (pc' := 39) rfl (ls' := #[.val (.long x), .second, .val (.int (31 : Int32)), .val (.long u), .second]) rfl ?_
  have f1 : (x &&& (2147483647 : Int64)).toInt = x.toInt % 2147483648 := own_maskL _ _ 31 _ (by decide) (by decide) (by decide)
  have f2 : (-(x &&& (2147483647 : Int64))).toInt = -(x.toInt % 2147483648) := by have g1 := c_lneg (x &&& (2147483647 : Int64)); have g2 := own_r64 (-(x &&& (2147483647 : Int64))); omega
  have f3 : u.toInt = ((-(x &&& (2147483647 : Int64))).toInt % 18446744073709551616) / 9223372036854775808 := by rw [e_u]; exact c_lushr _ 63 63 (by decide) (by decide)
  have f4 : (x.toInt % 2147483648 = 0 ∧ u.toInt = 0) ∨ (0 < x.toInt % 2147483648 ∧ u.toInt = 1) := by omega
  clear f1 f2 f3
  refine WP.iloadN d1_39 rfl (pc' := 40) rfl ?_
  refine WP.bipush d1_40 (z := (10 : Int32)) rfl (pc' := 42) rfl ?_
  refine WP.ishl d1_42 (pc' := 43) rfl ?_
  rw [show ((31 : Int32) <<< ((10 : Int32) &&& 31)) = (31744 : Int32) from by decide]
  refine WP.i2l d1_43 (pc' := 44) rfl ?_
  rw [show (31744 : Int32).toInt64 = (31744 : Int64) from by decide]
  refine WP.lloadN d1_44 rfl (pc' := 45) rfl ?_
  refine WP.iloadN d1_45 rfl (pc' := 46) rfl ?_
  refine WP.lushr d1_46 (pc' := 47) rfl ?_
  refine WP.ladd d1_47 (pc' := 48) rfl ?_
  refine WP.lloadN d1_48 rfl (pc' := 49) rfl ?_
  refine WP.ladd d1_49 (pc' := 50) rfl ?_
  have g1 : (ushrL x (31 : Int32)).toInt = x.toInt / 2147483648 := by have q : (ushrL x (31 : Int32)).toInt = (x.toInt % 18446744073709551616) / 2147483648 := c_lushr x (31 : Int32) 31 (by decide) (by decide); omega
  have g2 : ((31744 : Int64) + (ushrL x (31 : Int32))).toInt = 31744 + x.toInt / 2147483648 := by rw [own_ladd] <;> omega
  have g3 : (((31744 : Int64) + (ushrL x (31 : Int32))) + u).toInt = 31744 + x.toInt / 2147483648 + u.toInt := by rw [own_ladd] <;> omega
  have g4 := c_l2i (((31744 : Int64) + (ushrL x (31 : Int32))) + u)
  have g5 := own_r32 (((31744 : Int64) + (ushrL x (31 : Int32))) + u).toInt32
  have g6 := c_i2c (((31744 : Int64) + (ushrL x (31 : Int32))) + u).toInt32
  have g7 := c_i2c ((((31744 : Int64) + (ushrL x (31 : Int32))) + u).toInt32.toUInt32.toUInt16.toUInt32.toInt32)
  refine WP.l2i d1_50 (pc' := 51) rfl ?_
  refine WP.i2c d1_51 (pc' := 52) rfl ?_
  exact WP.retN d1_52 (t := .char) rfl (by simp) (by decide) (by decide) ⟨rfl, _, rfl, Or.inr ⟨by omega, by have e9 : (nar .char ((((31744 : Int64) + (ushrL x (31 : Int32))) + u).toInt32.toUInt32.toUInt16.toUInt32.toInt32)).toInt = 31744 + x.toInt / 2147483648 + u.toInt := (show ((((31744 : Int64) + (ushrL x (31 : Int32))) + u).toInt32.toUInt32.toUInt16.toUInt32.toInt32.toUInt32.toUInt16.toUInt32.toInt32).toInt = _ by omega); rw [e9]; exact vk_31 x.toInt (x.toInt / 2147483648) (x.toInt % 2147483648) u.toInt _ (by omega) (by omega) f4 (by omega) rfl⟩⟩
theorem run_27_32 {l : Launch} {Z : State} {a0 : Array Value} (hw : HW Z a0) {n0 : Nat} {h : Heap} (x : Int64) (hx0 : 0 ≤ x.toInt) (h1 : 4398046511104 ≤ x.toInt) (h2 : x.toInt < 8796093022208) : WP l B1 Z n0 (fun v h' => h = h' ∧ ∃ r : Int32, v = some (.int r) ∧ ((4611686018427387904 ≤ x.toInt ∧ r.toInt = 65535) ∨ (x.toInt < 4611686018427387904 ∧ r.toInt ≤ 54272 ∧ 0 ≤ r.toInt ∧ x.toInt ≤ valF r.toInt ∧ (r.toInt = 0 ∨ valF (r.toInt - 1) < x.toInt)))) h 0 0 27 #[.val (.long x), .second, .val (.int (32 : Int32)), .unset, .unset] [] := by
  have k32_10 : (10 : Int32).toInt = 10 := by decide
  have k32_32 : (32 : Int32).toInt = 32 := by decide
  have k32_63 : (63 : Int32).toInt = 63 := by decide
  have k32_32768 : (32768 : Int32).toInt = 32768 := by decide
  have k64_1 : (1 : Int64).toInt = 1 := by decide
  have k64_32768 : (32768 : Int64).toInt = 32768 := by decide
  have k64_4294967295 : (4294967295 : Int64).toInt = 4294967295 := by decide
  have k64_4294967296 : (4294967296 : Int64).toInt = 4294967296 := by decide
  refine WP.lloadN d1_27 rfl (pc' := 28) rfl ?_
  refine WP.lconst1 d1_28 (pc' := 29) rfl ?_
  refine WP.iloadN d1_29 rfl (pc' := 30) rfl ?_
  refine WP.lshl d1_30 (pc' := 31) rfl ?_
  rw [show ((1 : Int64) <<< ((32 : Int32) &&& 63).toInt64) = (4294967296 : Int64) from by decide]
  refine WP.lconst1 d1_31 (pc' := 32) rfl ?_
  refine WP.lsub d1_32 (pc' := 33) rfl ?_
  rw [show (((4294967296 : Int64) - (1 : Int64)) : Int64) = (4294967295 : Int64) from by decide]
  refine WP.land d1_33 (pc' := 34) rfl ?_
  refine WP.lneg d1_34 (pc' := 35) rfl ?_
  refine WP.bipush d1_35 (z := (63 : Int32)) rfl (pc' := 37) rfl ?_
  refine WP.lushr d1_37 (pc' := 38) rfl ?_
  obtain ⟨u, e_u⟩ : ∃ z, z = (ushrL (-(x &&& (4294967295 : Int64))) (63 : Int32)) := ⟨_, rfl⟩
  rw [← e_u]
  refine WP.lstoreN d1_38 (pc' := 39) rfl (ls' := #[.val (.long x), .second, .val (.int (32 : Int32)), .val (.long u), .second]) rfl ?_
  have f1 : (x &&& (4294967295 : Int64)).toInt = x.toInt % 4294967296 := own_maskL _ _ 32 _ (by decide) (by decide) (by decide)
  have f2 : (-(x &&& (4294967295 : Int64))).toInt = -(x.toInt % 4294967296) := by have g1 := c_lneg (x &&& (4294967295 : Int64)); have g2 := own_r64 (-(x &&& (4294967295 : Int64))); omega
  have f3 : u.toInt = ((-(x &&& (4294967295 : Int64))).toInt % 18446744073709551616) / 9223372036854775808 := by rw [e_u]; exact c_lushr _ 63 63 (by decide) (by decide)
  have f4 : (x.toInt % 4294967296 = 0 ∧ u.toInt = 0) ∨ (0 < x.toInt % 4294967296 ∧ u.toInt = 1) := by omega
  clear f1 f2 f3
  refine WP.iloadN d1_39 rfl (pc' := 40) rfl ?_
  refine WP.bipush d1_40 (z := (10 : Int32)) rfl (pc' := 42) rfl ?_
  refine WP.ishl d1_42 (pc' := 43) rfl ?_
  rw [show ((32 : Int32) <<< ((10 : Int32) &&& 31)) = (32768 : Int32) from by decide]
  refine WP.i2l d1_43 (pc' := 44) rfl ?_
  rw [show (32768 : Int32).toInt64 = (32768 : Int64) from by decide]
  refine WP.lloadN d1_44 rfl (pc' := 45) rfl ?_
  refine WP.iloadN d1_45 rfl (pc' := 46) rfl ?_
  refine WP.lushr d1_46 (pc' := 47) rfl ?_
  refine WP.ladd d1_47 (pc' := 48) rfl ?_
  refine WP.lloadN d1_48 rfl (pc' := 49) rfl ?_
  refine WP.ladd d1_49 (pc' := 50) rfl ?_
  have g1 : (ushrL x (32 : Int32)).toInt = x.toInt / 4294967296 := by have q : (ushrL x (32 : Int32)).toInt = (x.toInt % 18446744073709551616) / 4294967296 := c_lushr x (32 : Int32) 32 (by decide) (by decide); omega
  have g2 : ((32768 : Int64) + (ushrL x (32 : Int32))).toInt = 32768 + x.toInt / 4294967296 := by rw [own_ladd] <;> omega
  have g3 : (((32768 : Int64) + (ushrL x (32 : Int32))) + u).toInt = 32768 + x.toInt / 4294967296 + u.toInt := by rw [own_ladd] <;> omega
  have g4 := c_l2i (((32768 : Int64) + (ushrL x (32 : Int32))) + u)
  have g5 := own_r32 (((32768 : Int64) + (ushrL x (32 : Int32))) + u).toInt32
  have g6 := c_i2c (((32768 : Int64) + (ushrL x (32 : Int32))) + u).toInt32
  have g7 := c_i2c ((((32768 : Int64) + (ushrL x (32 : Int32))) + u).toInt32.toUInt32.toUInt16.toUInt32.toInt32)
  refine WP.l2i d1_50 (pc' := 51) rfl ?_
  refine WP.i2c d1_51 (pc' := 52) rfl ?_
  exact WP.retN d1_52 (t := .char) rfl (by simp) (by decide) (by decide) ⟨rfl, _, rfl, Or.inr ⟨by omega, by have e9 : (nar .char ((((32768 : Int64) + (ushrL x (32 : Int32))) + u).toInt32.toUInt32.toUInt16.toUInt32.toInt32)).toInt = 32768 + x.toInt / 4294967296 + u.toInt := (show ((((32768 : Int64) + (ushrL x (32 : Int32))) + u).toInt32.toUInt32.toUInt16.toUInt32.toInt32.toUInt32.toUInt16.toUInt32.toInt32).toInt = _ by omega); rw [e9]; exact vk_32 x.toInt (x.toInt / 4294967296) (x.toInt % 4294967296) u.toInt _ (by omega) (by omega) f4 (by omega) rfl⟩⟩
theorem run_27_33 {l : Launch} {Z : State} {a0 : Array Value} (hw : HW Z a0) {n0 : Nat} {h : Heap} (x : Int64) (hx0 : 0 ≤ x.toInt) (h1 : 8796093022208 ≤ x.toInt) (h2 : x.toInt < 17592186044416) : WP l B1 Z n0 (fun v h' => h = h' ∧ ∃ r : Int32, v = some (.int r) ∧ ((4611686018427387904 ≤ x.toInt ∧ r.toInt = 65535) ∨ (x.toInt < 4611686018427387904 ∧ r.toInt ≤ 54272 ∧ 0 ≤ r.toInt ∧ x.toInt ≤ valF r.toInt ∧ (r.toInt = 0 ∨ valF (r.toInt - 1) < x.toInt)))) h 0 0 27 #[.val (.long x), .second, .val (.int (33 : Int32)), .unset, .unset] [] := by
  have k32_10 : (10 : Int32).toInt = 10 := by decide
  have k32_33 : (33 : Int32).toInt = 33 := by decide
  have k32_63 : (63 : Int32).toInt = 63 := by decide
  have k32_33792 : (33792 : Int32).toInt = 33792 := by decide
  have k64_1 : (1 : Int64).toInt = 1 := by decide
  have k64_33792 : (33792 : Int64).toInt = 33792 := by decide
  have k64_8589934591 : (8589934591 : Int64).toInt = 8589934591 := by decide
  have k64_8589934592 : (8589934592 : Int64).toInt = 8589934592 := by decide
  refine WP.lloadN d1_27 rfl (pc' := 28) rfl ?_
  refine WP.lconst1 d1_28 (pc' := 29) rfl ?_
  refine WP.iloadN d1_29 rfl (pc' := 30) rfl ?_
  refine WP.lshl d1_30 (pc' := 31) rfl ?_
  rw [show ((1 : Int64) <<< ((33 : Int32) &&& 63).toInt64) = (8589934592 : Int64) from by decide]
  refine WP.lconst1 d1_31 (pc' := 32) rfl ?_
  refine WP.lsub d1_32 (pc' := 33) rfl ?_
  rw [show (((8589934592 : Int64) - (1 : Int64)) : Int64) = (8589934591 : Int64) from by decide]
  refine WP.land d1_33 (pc' := 34) rfl ?_
  refine WP.lneg d1_34 (pc' := 35) rfl ?_
  refine WP.bipush d1_35 (z := (63 : Int32)) rfl (pc' := 37) rfl ?_
  refine WP.lushr d1_37 (pc' := 38) rfl ?_
  obtain ⟨u, e_u⟩ : ∃ z, z = (ushrL (-(x &&& (8589934591 : Int64))) (63 : Int32)) := ⟨_, rfl⟩
  rw [← e_u]
  refine WP.lstoreN d1_38 (pc' := 39) rfl (ls' := #[.val (.long x), .second, .val (.int (33 : Int32)), .val (.long u), .second]) rfl ?_
  have f1 : (x &&& (8589934591 : Int64)).toInt = x.toInt % 8589934592 := own_maskL _ _ 33 _ (by decide) (by decide) (by decide)
  have f2 : (-(x &&& (8589934591 : Int64))).toInt = -(x.toInt % 8589934592) := by have g1 := c_lneg (x &&& (8589934591 : Int64)); have g2 := own_r64 (-(x &&& (8589934591 : Int64))); omega
  have f3 : u.toInt = ((-(x &&& (8589934591 : Int64))).toInt % 18446744073709551616) / 9223372036854775808 := by rw [e_u]; exact c_lushr _ 63 63 (by decide) (by decide)
  have f4 : (x.toInt % 8589934592 = 0 ∧ u.toInt = 0) ∨ (0 < x.toInt % 8589934592 ∧ u.toInt = 1) := by omega
  clear f1 f2 f3
  refine WP.iloadN d1_39 rfl (pc' := 40) rfl ?_
  refine WP.bipush d1_40 (z := (10 : Int32)) rfl (pc' := 42) rfl ?_
  refine WP.ishl d1_42 (pc' := 43) rfl ?_
  rw [show ((33 : Int32) <<< ((10 : Int32) &&& 31)) = (33792 : Int32) from by decide]
  refine WP.i2l d1_43 (pc' := 44) rfl ?_
  rw [show (33792 : Int32).toInt64 = (33792 : Int64) from by decide]
  refine WP.lloadN d1_44 rfl (pc' := 45) rfl ?_
  refine WP.iloadN d1_45 rfl (pc' := 46) rfl ?_
  refine WP.lushr d1_46 (pc' := 47) rfl ?_
  refine WP.ladd d1_47 (pc' := 48) rfl ?_
  refine WP.lloadN d1_48 rfl (pc' := 49) rfl ?_
  refine WP.ladd d1_49 (pc' := 50) rfl ?_
  have g1 : (ushrL x (33 : Int32)).toInt = x.toInt / 8589934592 := by have q : (ushrL x (33 : Int32)).toInt = (x.toInt % 18446744073709551616) / 8589934592 := c_lushr x (33 : Int32) 33 (by decide) (by decide); omega
  have g2 : ((33792 : Int64) + (ushrL x (33 : Int32))).toInt = 33792 + x.toInt / 8589934592 := by rw [own_ladd] <;> omega
  have g3 : (((33792 : Int64) + (ushrL x (33 : Int32))) + u).toInt = 33792 + x.toInt / 8589934592 + u.toInt := by rw [own_ladd] <;> omega
  have g4 := c_l2i (((33792 : Int64) + (ushrL x (33 : Int32))) + u)
  have g5 := own_r32 (((33792 : Int64) + (ushrL x (33 : Int32))) + u).toInt32
  have g6 := c_i2c (((33792 : Int64) + (ushrL x (33 : Int32))) + u).toInt32
  have g7 := c_i2c ((((33792 : Int64) + (ushrL x (33 : Int32))) + u).toInt32.toUInt32.toUInt16.toUInt32.toInt32)
  refine WP.l2i d1_50 (pc' := 51) rfl ?_
  refine WP.i2c d1_51 (pc' := 52) rfl ?_
  exact WP.retN d1_52 (t := .char) rfl (by simp) (by decide) (by decide) ⟨rfl, _, rfl, Or.inr ⟨by omega, by have e9 : (nar .char ((((33792 : Int64) + (ushrL x (33 : Int32))) + u).toInt32.toUInt32.toUInt16.toUInt32.toInt32)).toInt = 33792 + x.toInt / 8589934592 + u.toInt := (show ((((33792 : Int64) + (ushrL x (33 : Int32))) + u).toInt32.toUInt32.toUInt16.toUInt32.toInt32.toUInt32.toUInt16.toUInt32.toInt32).toInt = _ by omega); rw [e9]; exact vk_33 x.toInt (x.toInt / 8589934592) (x.toInt % 8589934592) u.toInt _ (by omega) (by omega) f4 (by omega) rfl⟩⟩
theorem run_27_34 {l : Launch} {Z : State} {a0 : Array Value} (hw : HW Z a0) {n0 : Nat} {h : Heap} (x : Int64) (hx0 : 0 ≤ x.toInt) (h1 : 17592186044416 ≤ x.toInt) (h2 : x.toInt < 35184372088832) : WP l B1 Z n0 (fun v h' => h = h' ∧ ∃ r : Int32, v = some (.int r) ∧ ((4611686018427387904 ≤ x.toInt ∧ r.toInt = 65535) ∨ (x.toInt < 4611686018427387904 ∧ r.toInt ≤ 54272 ∧ 0 ≤ r.toInt ∧ x.toInt ≤ valF r.toInt ∧ (r.toInt = 0 ∨ valF (r.toInt - 1) < x.toInt)))) h 0 0 27 #[.val (.long x), .second, .val (.int (34 : Int32)), .unset, .unset] [] := by
  have k32_10 : (10 : Int32).toInt = 10 := by decide
  have k32_34 : (34 : Int32).toInt = 34 := by decide
  have k32_63 : (63 : Int32).toInt = 63 := by decide
  have k32_34816 : (34816 : Int32).toInt = 34816 := by decide
  have k64_1 : (1 : Int64).toInt = 1 := by decide
  have k64_34816 : (34816 : Int64).toInt = 34816 := by decide
  have k64_17179869183 : (17179869183 : Int64).toInt = 17179869183 := by decide
  have k64_17179869184 : (17179869184 : Int64).toInt = 17179869184 := by decide
  refine WP.lloadN d1_27 rfl (pc' := 28) rfl ?_
  refine WP.lconst1 d1_28 (pc' := 29) rfl ?_
  refine WP.iloadN d1_29 rfl (pc' := 30) rfl ?_
  refine WP.lshl d1_30 (pc' := 31) rfl ?_
  rw [show ((1 : Int64) <<< ((34 : Int32) &&& 63).toInt64) = (17179869184 : Int64) from by decide]
  refine WP.lconst1 d1_31 (pc' := 32) rfl ?_
  refine WP.lsub d1_32 (pc' := 33) rfl ?_
  rw [show (((17179869184 : Int64) - (1 : Int64)) : Int64) = (17179869183 : Int64) from by decide]
  refine WP.land d1_33 (pc' := 34) rfl ?_
  refine WP.lneg d1_34 (pc' := 35) rfl ?_
  refine WP.bipush d1_35 (z := (63 : Int32)) rfl (pc' := 37) rfl ?_
  refine WP.lushr d1_37 (pc' := 38) rfl ?_
  obtain ⟨u, e_u⟩ : ∃ z, z = (ushrL (-(x &&& (17179869183 : Int64))) (63 : Int32)) := ⟨_, rfl⟩
  rw [← e_u]
  refine WP.lstoreN d1_38 (pc' := 39) rfl (ls' := #[.val (.long x), .second, .val (.int (34 : Int32)), .val (.long u), .second]) rfl ?_
  have f1 : (x &&& (17179869183 : Int64)).toInt = x.toInt % 17179869184 := own_maskL _ _ 34 _ (by decide) (by decide) (by decide)
  have f2 : (-(x &&& (17179869183 : Int64))).toInt = -(x.toInt % 17179869184) := by have g1 := c_lneg (x &&& (17179869183 : Int64)); have g2 := own_r64 (-(x &&& (17179869183 : Int64))); omega
  have f3 : u.toInt = ((-(x &&& (17179869183 : Int64))).toInt % 18446744073709551616) / 9223372036854775808 := by rw [e_u]; exact c_lushr _ 63 63 (by decide) (by decide)
  have f4 : (x.toInt % 17179869184 = 0 ∧ u.toInt = 0) ∨ (0 < x.toInt % 17179869184 ∧ u.toInt = 1) := by omega
  clear f1 f2 f3
  refine WP.iloadN d1_39 rfl (pc' := 40) rfl ?_
  refine WP.bipush d1_40 (z := (10 : Int32)) rfl (pc' := 42) rfl ?_
  refine WP.ishl d1_42 (pc' := 43) rfl ?_
  rw [show ((34 : Int32) <<< ((10 : Int32) &&& 31)) = (34816 : Int32) from by decide]
  refine WP.i2l d1_43 (pc' := 44) rfl ?_
  rw [show (34816 : Int32).toInt64 = (34816 : Int64) from by decide]
  refine WP.lloadN d1_44 rfl (pc' := 45) rfl ?_
  refine WP.iloadN d1_45 rfl (pc' := 46) rfl ?_
  refine WP.lushr d1_46 (pc' := 47) rfl ?_
  refine WP.ladd d1_47 (pc' := 48) rfl ?_
  refine WP.lloadN d1_48 rfl (pc' := 49) rfl ?_
  refine WP.ladd d1_49 (pc' := 50) rfl ?_
  have g1 : (ushrL x (34 : Int32)).toInt = x.toInt / 17179869184 := by have q : (ushrL x (34 : Int32)).toInt = (x.toInt % 18446744073709551616) / 17179869184 := c_lushr x (34 : Int32) 34 (by decide) (by decide); omega
  have g2 : ((34816 : Int64) + (ushrL x (34 : Int32))).toInt = 34816 + x.toInt / 17179869184 := by rw [own_ladd] <;> omega
  have g3 : (((34816 : Int64) + (ushrL x (34 : Int32))) + u).toInt = 34816 + x.toInt / 17179869184 + u.toInt := by rw [own_ladd] <;> omega
  have g4 := c_l2i (((34816 : Int64) + (ushrL x (34 : Int32))) + u)
  have g5 := own_r32 (((34816 : Int64) + (ushrL x (34 : Int32))) + u).toInt32
  have g6 := c_i2c (((34816 : Int64) + (ushrL x (34 : Int32))) + u).toInt32
  have g7 := c_i2c ((((34816 : Int64) + (ushrL x (34 : Int32))) + u).toInt32.toUInt32.toUInt16.toUInt32.toInt32)
  refine WP.l2i d1_50 (pc' := 51) rfl ?_
  refine WP.i2c d1_51 (pc' := 52) rfl ?_
  exact WP.retN d1_52 (t := .char) rfl (by simp) (by decide) (by decide) ⟨rfl, _, rfl, Or.inr ⟨by omega, by have e9 : (nar .char ((((34816 : Int64) + (ushrL x (34 : Int32))) + u).toInt32.toUInt32.toUInt16.toUInt32.toInt32)).toInt = 34816 + x.toInt / 17179869184 + u.toInt := (show ((((34816 : Int64) + (ushrL x (34 : Int32))) + u).toInt32.toUInt32.toUInt16.toUInt32.toInt32.toUInt32.toUInt16.toUInt32.toInt32).toInt = _ by omega); rw [e9]; exact vk_34 x.toInt (x.toInt / 17179869184) (x.toInt % 17179869184) u.toInt _ (by omega) (by omega) f4 (by omega) rfl⟩⟩
theorem run_27_35 {l : Launch} {Z : State} {a0 : Array Value} (hw : HW Z a0) {n0 : Nat} {h : Heap} (x : Int64) (hx0 : 0 ≤ x.toInt) (h1 : 35184372088832 ≤ x.toInt) (h2 : x.toInt < 70368744177664) : WP l B1 Z n0 (fun v h' => h = h' ∧ ∃ r : Int32, v = some (.int r) ∧ ((4611686018427387904 ≤ x.toInt ∧ r.toInt = 65535) ∨ (x.toInt < 4611686018427387904 ∧ r.toInt ≤ 54272 ∧ 0 ≤ r.toInt ∧ x.toInt ≤ valF r.toInt ∧ (r.toInt = 0 ∨ valF (r.toInt - 1) < x.toInt)))) h 0 0 27 #[.val (.long x), .second, .val (.int (35 : Int32)), .unset, .unset] [] := by
  have k32_10 : (10 : Int32).toInt = 10 := by decide
  have k32_35 : (35 : Int32).toInt = 35 := by decide
  have k32_63 : (63 : Int32).toInt = 63 := by decide
  have k32_35840 : (35840 : Int32).toInt = 35840 := by decide
  have k64_1 : (1 : Int64).toInt = 1 := by decide
  have k64_35840 : (35840 : Int64).toInt = 35840 := by decide
  have k64_34359738367 : (34359738367 : Int64).toInt = 34359738367 := by decide
  have k64_34359738368 : (34359738368 : Int64).toInt = 34359738368 := by decide
  refine WP.lloadN d1_27 rfl (pc' := 28) rfl ?_
  refine WP.lconst1 d1_28 (pc' := 29) rfl ?_
  refine WP.iloadN d1_29 rfl (pc' := 30) rfl ?_
  refine WP.lshl d1_30 (pc' := 31) rfl ?_
  rw [show ((1 : Int64) <<< ((35 : Int32) &&& 63).toInt64) = (34359738368 : Int64) from by decide]
  refine WP.lconst1 d1_31 (pc' := 32) rfl ?_
  refine WP.lsub d1_32 (pc' := 33) rfl ?_
  rw [show (((34359738368 : Int64) - (1 : Int64)) : Int64) = (34359738367 : Int64) from by decide]
  refine WP.land d1_33 (pc' := 34) rfl ?_
  refine WP.lneg d1_34 (pc' := 35) rfl ?_
  refine WP.bipush d1_35 (z := (63 : Int32)) rfl (pc' := 37) rfl ?_
  refine WP.lushr d1_37 (pc' := 38) rfl ?_
  obtain ⟨u, e_u⟩ : ∃ z, z = (ushrL (-(x &&& (34359738367 : Int64))) (63 : Int32)) := ⟨_, rfl⟩
  rw [← e_u]
  refine WP.lstoreN d1_38 (pc' := 39) rfl (ls' := #[.val (.long x), .second, .val (.int (35 : Int32)), .val (.long u), .second]) rfl ?_
  have f1 : (x &&& (34359738367 : Int64)).toInt = x.toInt % 34359738368 := own_maskL _ _ 35 _ (by decide) (by decide) (by decide)
  have f2 : (-(x &&& (34359738367 : Int64))).toInt = -(x.toInt % 34359738368) := by have g1 := c_lneg (x &&& (34359738367 : Int64)); have g2 := own_r64 (-(x &&& (34359738367 : Int64))); omega
  have f3 : u.toInt = ((-(x &&& (34359738367 : Int64))).toInt % 18446744073709551616) / 9223372036854775808 := by rw [e_u]; exact c_lushr _ 63 63 (by decide) (by decide)
  have f4 : (x.toInt % 34359738368 = 0 ∧ u.toInt = 0) ∨ (0 < x.toInt % 34359738368 ∧ u.toInt = 1) := by omega
  clear f1 f2 f3
  refine WP.iloadN d1_39 rfl (pc' := 40) rfl ?_
  refine WP.bipush d1_40 (z := (10 : Int32)) rfl (pc' := 42) rfl ?_
  refine WP.ishl d1_42 (pc' := 43) rfl ?_
  rw [show ((35 : Int32) <<< ((10 : Int32) &&& 31)) = (35840 : Int32) from by decide]
  refine WP.i2l d1_43 (pc' := 44) rfl ?_
  rw [show (35840 : Int32).toInt64 = (35840 : Int64) from by decide]
  refine WP.lloadN d1_44 rfl (pc' := 45) rfl ?_
  refine WP.iloadN d1_45 rfl (pc' := 46) rfl ?_
  refine WP.lushr d1_46 (pc' := 47) rfl ?_
  refine WP.ladd d1_47 (pc' := 48) rfl ?_
  refine WP.lloadN d1_48 rfl (pc' := 49) rfl ?_
  refine WP.ladd d1_49 (pc' := 50) rfl ?_
  have g1 : (ushrL x (35 : Int32)).toInt = x.toInt / 34359738368 := by have q : (ushrL x (35 : Int32)).toInt = (x.toInt % 18446744073709551616) / 34359738368 := c_lushr x (35 : Int32) 35 (by decide) (by decide); omega
  have g2 : ((35840 : Int64) + (ushrL x (35 : Int32))).toInt = 35840 + x.toInt / 34359738368 := by rw [own_ladd] <;> omega
  have g3 : (((35840 : Int64) + (ushrL x (35 : Int32))) + u).toInt = 35840 + x.toInt / 34359738368 + u.toInt := by rw [own_ladd] <;> omega
  have g4 := c_l2i (((35840 : Int64) + (ushrL x (35 : Int32))) + u)
  have g5 := own_r32 (((35840 : Int64) + (ushrL x (35 : Int32))) + u).toInt32
  have g6 := c_i2c (((35840 : Int64) + (ushrL x (35 : Int32))) + u).toInt32
  have g7 := c_i2c ((((35840 : Int64) + (ushrL x (35 : Int32))) + u).toInt32.toUInt32.toUInt16.toUInt32.toInt32)
  refine WP.l2i d1_50 (pc' := 51) rfl ?_
  refine WP.i2c d1_51 (pc' := 52) rfl ?_
  exact WP.retN d1_52 (t := .char) rfl (by simp) (by decide) (by decide) ⟨rfl, _, rfl, Or.inr ⟨by omega, by have e9 : (nar .char ((((35840 : Int64) + (ushrL x (35 : Int32))) + u).toInt32.toUInt32.toUInt16.toUInt32.toInt32)).toInt = 35840 + x.toInt / 34359738368 + u.toInt := (show ((((35840 : Int64) + (ushrL x (35 : Int32))) + u).toInt32.toUInt32.toUInt16.toUInt32.toInt32.toUInt32.toUInt16.toUInt32.toInt32).toInt = _ by omega); rw [e9]; exact vk_35 x.toInt (x.toInt / 34359738368) (x.toInt % 34359738368) u.toInt _ (by omega) (by omega) f4 (by omega) rfl⟩⟩
theorem run_27_36 {l : Launch} {Z : State} {a0 : Array Value} (hw : HW Z a0) {n0 : Nat} {h : Heap} (x : Int64) (hx0 : 0 ≤ x.toInt) (h1 : 70368744177664 ≤ x.toInt) (h2 : x.toInt < 140737488355328) : WP l B1 Z n0 (fun v h' => h = h' ∧ ∃ r : Int32, v = some (.int r) ∧ ((4611686018427387904 ≤ x.toInt ∧ r.toInt = 65535) ∨ (x.toInt < 4611686018427387904 ∧ r.toInt ≤ 54272 ∧ 0 ≤ r.toInt ∧ x.toInt ≤ valF r.toInt ∧ (r.toInt = 0 ∨ valF (r.toInt - 1) < x.toInt)))) h 0 0 27 #[.val (.long x), .second, .val (.int (36 : Int32)), .unset, .unset] [] := by
  have k32_10 : (10 : Int32).toInt = 10 := by decide
  have k32_36 : (36 : Int32).toInt = 36 := by decide
  have k32_63 : (63 : Int32).toInt = 63 := by decide
  have k32_36864 : (36864 : Int32).toInt = 36864 := by decide
  have k64_1 : (1 : Int64).toInt = 1 := by decide
  have k64_36864 : (36864 : Int64).toInt = 36864 := by decide
  have k64_68719476735 : (68719476735 : Int64).toInt = 68719476735 := by decide
  have k64_68719476736 : (68719476736 : Int64).toInt = 68719476736 := by decide
  refine WP.lloadN d1_27 rfl (pc' := 28) rfl ?_
  refine WP.lconst1 d1_28 (pc' := 29) rfl ?_
  refine WP.iloadN d1_29 rfl (pc' := 30) rfl ?_
  refine WP.lshl d1_30 (pc' := 31) rfl ?_
  rw [show ((1 : Int64) <<< ((36 : Int32) &&& 63).toInt64) = (68719476736 : Int64) from by decide]
  refine WP.lconst1 d1_31 (pc' := 32) rfl ?_
  refine WP.lsub d1_32 (pc' := 33) rfl ?_
  rw [show (((68719476736 : Int64) - (1 : Int64)) : Int64) = (68719476735 : Int64) from by decide]
  refine WP.land d1_33 (pc' := 34) rfl ?_
  refine WP.lneg d1_34 (pc' := 35) rfl ?_
  refine WP.bipush d1_35 (z := (63 : Int32)) rfl (pc' := 37) rfl ?_
  refine WP.lushr d1_37 (pc' := 38) rfl ?_
  obtain ⟨u, e_u⟩ : ∃ z, z = (ushrL (-(x &&& (68719476735 : Int64))) (63 : Int32)) := ⟨_, rfl⟩
  rw [← e_u]
  refine WP.lstoreN d1_38 (pc' := 39) rfl (ls' := #[.val (.long x), .second, .val (.int (36 : Int32)), .val (.long u), .second]) rfl ?_
  have f1 : (x &&& (68719476735 : Int64)).toInt = x.toInt % 68719476736 := own_maskL _ _ 36 _ (by decide) (by decide) (by decide)
  have f2 : (-(x &&& (68719476735 : Int64))).toInt = -(x.toInt % 68719476736) := by have g1 := c_lneg (x &&& (68719476735 : Int64)); have g2 := own_r64 (-(x &&& (68719476735 : Int64))); omega
  have f3 : u.toInt = ((-(x &&& (68719476735 : Int64))).toInt % 18446744073709551616) / 9223372036854775808 := by rw [e_u]; exact c_lushr _ 63 63 (by decide) (by decide)
  have f4 : (x.toInt % 68719476736 = 0 ∧ u.toInt = 0) ∨ (0 < x.toInt % 68719476736 ∧ u.toInt = 1) := by omega
  clear f1 f2 f3
  refine WP.iloadN d1_39 rfl (pc' := 40) rfl ?_
  refine WP.bipush d1_40 (z := (10 : Int32)) rfl (pc' := 42) rfl ?_
  refine WP.ishl d1_42 (pc' := 43) rfl ?_
  rw [show ((36 : Int32) <<< ((10 : Int32) &&& 31)) = (36864 : Int32) from by decide]
  refine WP.i2l d1_43 (pc' := 44) rfl ?_
  rw [show (36864 : Int32).toInt64 = (36864 : Int64) from by decide]
  refine WP.lloadN d1_44 rfl (pc' := 45) rfl ?_
  refine WP.iloadN d1_45 rfl (pc' := 46) rfl ?_
  refine WP.lushr d1_46 (pc' := 47) rfl ?_
  refine WP.ladd d1_47 (pc' := 48) rfl ?_
  refine WP.lloadN d1_48 rfl (pc' := 49) rfl ?_
  refine WP.ladd d1_49 (pc' := 50) rfl ?_
  have g1 : (ushrL x (36 : Int32)).toInt = x.toInt / 68719476736 := by have q : (ushrL x (36 : Int32)).toInt = (x.toInt % 18446744073709551616) / 68719476736 := c_lushr x (36 : Int32) 36 (by decide) (by decide); omega
  have g2 : ((36864 : Int64) + (ushrL x (36 : Int32))).toInt = 36864 + x.toInt / 68719476736 := by rw [own_ladd] <;> omega
  have g3 : (((36864 : Int64) + (ushrL x (36 : Int32))) + u).toInt = 36864 + x.toInt / 68719476736 + u.toInt := by rw [own_ladd] <;> omega
  have g4 := c_l2i (((36864 : Int64) + (ushrL x (36 : Int32))) + u)
  have g5 := own_r32 (((36864 : Int64) + (ushrL x (36 : Int32))) + u).toInt32
  have g6 := c_i2c (((36864 : Int64) + (ushrL x (36 : Int32))) + u).toInt32
  have g7 := c_i2c ((((36864 : Int64) + (ushrL x (36 : Int32))) + u).toInt32.toUInt32.toUInt16.toUInt32.toInt32)
  refine WP.l2i d1_50 (pc' := 51) rfl ?_
  refine WP.i2c d1_51 (pc' := 52) rfl ?_
  exact WP.retN d1_52 (t := .char) rfl (by simp) (by decide) (by decide) ⟨rfl, _, rfl, Or.inr ⟨by omega, by have e9 : (nar .char ((((36864 : Int64) + (ushrL x (36 : Int32))) + u).toInt32.toUInt32.toUInt16.toUInt32.toInt32)).toInt = 36864 + x.toInt / 68719476736 + u.toInt := (show ((((36864 : Int64) + (ushrL x (36 : Int32))) + u).toInt32.toUInt32.toUInt16.toUInt32.toInt32.toUInt32.toUInt16.toUInt32.toInt32).toInt = _ by omega); rw [e9]; exact vk_36 x.toInt (x.toInt / 68719476736) (x.toInt % 68719476736) u.toInt _ (by omega) (by omega) f4 (by omega) rfl⟩⟩
theorem run_27_37 {l : Launch} {Z : State} {a0 : Array Value} (hw : HW Z a0) {n0 : Nat} {h : Heap} (x : Int64) (hx0 : 0 ≤ x.toInt) (h1 : 140737488355328 ≤ x.toInt) (h2 : x.toInt < 281474976710656) : WP l B1 Z n0 (fun v h' => h = h' ∧ ∃ r : Int32, v = some (.int r) ∧ ((4611686018427387904 ≤ x.toInt ∧ r.toInt = 65535) ∨ (x.toInt < 4611686018427387904 ∧ r.toInt ≤ 54272 ∧ 0 ≤ r.toInt ∧ x.toInt ≤ valF r.toInt ∧ (r.toInt = 0 ∨ valF (r.toInt - 1) < x.toInt)))) h 0 0 27 #[.val (.long x), .second, .val (.int (37 : Int32)), .unset, .unset] [] := by
  have k32_10 : (10 : Int32).toInt = 10 := by decide
  have k32_37 : (37 : Int32).toInt = 37 := by decide
  have k32_63 : (63 : Int32).toInt = 63 := by decide
  have k32_37888 : (37888 : Int32).toInt = 37888 := by decide
  have k64_1 : (1 : Int64).toInt = 1 := by decide
  have k64_37888 : (37888 : Int64).toInt = 37888 := by decide
  have k64_137438953471 : (137438953471 : Int64).toInt = 137438953471 := by decide
  have k64_137438953472 : (137438953472 : Int64).toInt = 137438953472 := by decide
  refine WP.lloadN d1_27 rfl (pc' := 28) rfl ?_
  refine WP.lconst1 d1_28 (pc' := 29) rfl ?_
  refine WP.iloadN d1_29 rfl (pc' := 30) rfl ?_
  refine WP.lshl d1_30 (pc' := 31) rfl ?_
  rw [show ((1 : Int64) <<< ((37 : Int32) &&& 63).toInt64) = (137438953472 : Int64) from by decide]
  refine WP.lconst1 d1_31 (pc' := 32) rfl ?_
  refine WP.lsub d1_32 (pc' := 33) rfl ?_
  rw [show (((137438953472 : Int64) - (1 : Int64)) : Int64) = (137438953471 : Int64) from by decide]
  refine WP.land d1_33 (pc' := 34) rfl ?_
  refine WP.lneg d1_34 (pc' := 35) rfl ?_
  refine WP.bipush d1_35 (z := (63 : Int32)) rfl (pc' := 37) rfl ?_
  refine WP.lushr d1_37 (pc' := 38) rfl ?_
  obtain ⟨u, e_u⟩ : ∃ z, z = (ushrL (-(x &&& (137438953471 : Int64))) (63 : Int32)) := ⟨_, rfl⟩
  rw [← e_u]
  refine WP.lstoreN d1_38 (pc' := 39) rfl (ls' := #[.val (.long x), .second, .val (.int (37 : Int32)), .val (.long u), .second]) rfl ?_
  have f1 : (x &&& (137438953471 : Int64)).toInt = x.toInt % 137438953472 := own_maskL _ _ 37 _ (by decide) (by decide) (by decide)
  have f2 : (-(x &&& (137438953471 : Int64))).toInt = -(x.toInt % 137438953472) := by have g1 := c_lneg (x &&& (137438953471 : Int64)); have g2 := own_r64 (-(x &&& (137438953471 : Int64))); omega
  have f3 : u.toInt = ((-(x &&& (137438953471 : Int64))).toInt % 18446744073709551616) / 9223372036854775808 := by rw [e_u]; exact c_lushr _ 63 63 (by decide) (by decide)
  have f4 : (x.toInt % 137438953472 = 0 ∧ u.toInt = 0) ∨ (0 < x.toInt % 137438953472 ∧ u.toInt = 1) := by omega
  clear f1 f2 f3
  refine WP.iloadN d1_39 rfl (pc' := 40) rfl ?_
  refine WP.bipush d1_40 (z := (10 : Int32)) rfl (pc' := 42) rfl ?_
  refine WP.ishl d1_42 (pc' := 43) rfl ?_
  rw [show ((37 : Int32) <<< ((10 : Int32) &&& 31)) = (37888 : Int32) from by decide]
  refine WP.i2l d1_43 (pc' := 44) rfl ?_
  rw [show (37888 : Int32).toInt64 = (37888 : Int64) from by decide]
  refine WP.lloadN d1_44 rfl (pc' := 45) rfl ?_
  refine WP.iloadN d1_45 rfl (pc' := 46) rfl ?_
  refine WP.lushr d1_46 (pc' := 47) rfl ?_
  refine WP.ladd d1_47 (pc' := 48) rfl ?_
  refine WP.lloadN d1_48 rfl (pc' := 49) rfl ?_
  refine WP.ladd d1_49 (pc' := 50) rfl ?_
  have g1 : (ushrL x (37 : Int32)).toInt = x.toInt / 137438953472 := by have q : (ushrL x (37 : Int32)).toInt = (x.toInt % 18446744073709551616) / 137438953472 := c_lushr x (37 : Int32) 37 (by decide) (by decide); omega
  have g2 : ((37888 : Int64) + (ushrL x (37 : Int32))).toInt = 37888 + x.toInt / 137438953472 := by rw [own_ladd] <;> omega
  have g3 : (((37888 : Int64) + (ushrL x (37 : Int32))) + u).toInt = 37888 + x.toInt / 137438953472 + u.toInt := by rw [own_ladd] <;> omega
  have g4 := c_l2i (((37888 : Int64) + (ushrL x (37 : Int32))) + u)
  have g5 := own_r32 (((37888 : Int64) + (ushrL x (37 : Int32))) + u).toInt32
  have g6 := c_i2c (((37888 : Int64) + (ushrL x (37 : Int32))) + u).toInt32
  have g7 := c_i2c ((((37888 : Int64) + (ushrL x (37 : Int32))) + u).toInt32.toUInt32.toUInt16.toUInt32.toInt32)
  refine WP.l2i d1_50 (pc' := 51) rfl ?_
  refine WP.i2c d1_51 (pc' := 52) rfl ?_
  exact WP.retN d1_52 (t := .char) rfl (by simp) (by decide) (by decide) ⟨rfl, _, rfl, Or.inr ⟨by omega, by have e9 : (nar .char ((((37888 : Int64) + (ushrL x (37 : Int32))) + u).toInt32.toUInt32.toUInt16.toUInt32.toInt32)).toInt = 37888 + x.toInt / 137438953472 + u.toInt := (show ((((37888 : Int64) + (ushrL x (37 : Int32))) + u).toInt32.toUInt32.toUInt16.toUInt32.toInt32.toUInt32.toUInt16.toUInt32.toInt32).toInt = _ by omega); rw [e9]; exact vk_37 x.toInt (x.toInt / 137438953472) (x.toInt % 137438953472) u.toInt _ (by omega) (by omega) f4 (by omega) rfl⟩⟩
theorem run_27_38 {l : Launch} {Z : State} {a0 : Array Value} (hw : HW Z a0) {n0 : Nat} {h : Heap} (x : Int64) (hx0 : 0 ≤ x.toInt) (h1 : 281474976710656 ≤ x.toInt) (h2 : x.toInt < 562949953421312) : WP l B1 Z n0 (fun v h' => h = h' ∧ ∃ r : Int32, v = some (.int r) ∧ ((4611686018427387904 ≤ x.toInt ∧ r.toInt = 65535) ∨ (x.toInt < 4611686018427387904 ∧ r.toInt ≤ 54272 ∧ 0 ≤ r.toInt ∧ x.toInt ≤ valF r.toInt ∧ (r.toInt = 0 ∨ valF (r.toInt - 1) < x.toInt)))) h 0 0 27 #[.val (.long x), .second, .val (.int (38 : Int32)), .unset, .unset] [] := by
  have k32_10 : (10 : Int32).toInt = 10 := by decide
  have k32_38 : (38 : Int32).toInt = 38 := by decide
  have k32_63 : (63 : Int32).toInt = 63 := by decide
  have k32_38912 : (38912 : Int32).toInt = 38912 := by decide
  have k64_1 : (1 : Int64).toInt = 1 := by decide
  have k64_38912 : (38912 : Int64).toInt = 38912 := by decide
  have k64_274877906943 : (274877906943 : Int64).toInt = 274877906943 := by decide
  have k64_274877906944 : (274877906944 : Int64).toInt = 274877906944 := by decide
  refine WP.lloadN d1_27 rfl (pc' := 28) rfl ?_
  refine WP.lconst1 d1_28 (pc' := 29) rfl ?_
  refine WP.iloadN d1_29 rfl (pc' := 30) rfl ?_
  refine WP.lshl d1_30 (pc' := 31) rfl ?_
  rw [show ((1 : Int64) <<< ((38 : Int32) &&& 63).toInt64) = (274877906944 : Int64) from by decide]
  refine WP.lconst1 d1_31 (pc' := 32) rfl ?_
  refine WP.lsub d1_32 (pc' := 33) rfl ?_
  rw [show (((274877906944 : Int64) - (1 : Int64)) : Int64) = (274877906943 : Int64) from by decide]
  refine WP.land d1_33 (pc' := 34) rfl ?_
  refine WP.lneg d1_34 (pc' := 35) rfl ?_
  refine WP.bipush d1_35 (z := (63 : Int32)) rfl (pc' := 37) rfl ?_
  refine WP.lushr d1_37 (pc' := 38) rfl ?_
  obtain ⟨u, e_u⟩ : ∃ z, z = (ushrL (-(x &&& (274877906943 : Int64))) (63 : Int32)) := ⟨_, rfl⟩
  rw [← e_u]
  refine WP.lstoreN d1_38 (pc' := 39) rfl (ls' := #[.val (.long x), .second, .val (.int (38 : Int32)), .val (.long u), .second]) rfl ?_
  have f1 : (x &&& (274877906943 : Int64)).toInt = x.toInt % 274877906944 := own_maskL _ _ 38 _ (by decide) (by decide) (by decide)
  have f2 : (-(x &&& (274877906943 : Int64))).toInt = -(x.toInt % 274877906944) := by have g1 := c_lneg (x &&& (274877906943 : Int64)); have g2 := own_r64 (-(x &&& (274877906943 : Int64))); omega
  have f3 : u.toInt = ((-(x &&& (274877906943 : Int64))).toInt % 18446744073709551616) / 9223372036854775808 := by rw [e_u]; exact c_lushr _ 63 63 (by decide) (by decide)
  have f4 : (x.toInt % 274877906944 = 0 ∧ u.toInt = 0) ∨ (0 < x.toInt % 274877906944 ∧ u.toInt = 1) := by omega
  clear f1 f2 f3
  refine WP.iloadN d1_39 rfl (pc' := 40) rfl ?_
  refine WP.bipush d1_40 (z := (10 : Int32)) rfl (pc' := 42) rfl ?_
  refine WP.ishl d1_42 (pc' := 43) rfl ?_
  rw [show ((38 : Int32) <<< ((10 : Int32) &&& 31)) = (38912 : Int32) from by decide]
  refine WP.i2l d1_43 (pc' := 44) rfl ?_
  rw [show (38912 : Int32).toInt64 = (38912 : Int64) from by decide]
  refine WP.lloadN d1_44 rfl (pc' := 45) rfl ?_
  refine WP.iloadN d1_45 rfl (pc' := 46) rfl ?_
  refine WP.lushr d1_46 (pc' := 47) rfl ?_
  refine WP.ladd d1_47 (pc' := 48) rfl ?_
  refine WP.lloadN d1_48 rfl (pc' := 49) rfl ?_
  refine WP.ladd d1_49 (pc' := 50) rfl ?_
  have g1 : (ushrL x (38 : Int32)).toInt = x.toInt / 274877906944 := by have q : (ushrL x (38 : Int32)).toInt = (x.toInt % 18446744073709551616) / 274877906944 := c_lushr x (38 : Int32) 38 (by decide) (by decide); omega
  have g2 : ((38912 : Int64) + (ushrL x (38 : Int32))).toInt = 38912 + x.toInt / 274877906944 := by rw [own_ladd] <;> omega
  have g3 : (((38912 : Int64) + (ushrL x (38 : Int32))) + u).toInt = 38912 + x.toInt / 274877906944 + u.toInt := by rw [own_ladd] <;> omega
  have g4 := c_l2i (((38912 : Int64) + (ushrL x (38 : Int32))) + u)
  have g5 := own_r32 (((38912 : Int64) + (ushrL x (38 : Int32))) + u).toInt32
  have g6 := c_i2c (((38912 : Int64) + (ushrL x (38 : Int32))) + u).toInt32
  have g7 := c_i2c ((((38912 : Int64) + (ushrL x (38 : Int32))) + u).toInt32.toUInt32.toUInt16.toUInt32.toInt32)
  refine WP.l2i d1_50 (pc' := 51) rfl ?_
  refine WP.i2c d1_51 (pc' := 52) rfl ?_
  exact WP.retN d1_52 (t := .char) rfl (by simp) (by decide) (by decide) ⟨rfl, _, rfl, Or.inr ⟨by omega, by have e9 : (nar .char ((((38912 : Int64) + (ushrL x (38 : Int32))) + u).toInt32.toUInt32.toUInt16.toUInt32.toInt32)).toInt = 38912 + x.toInt / 274877906944 + u.toInt := (show ((((38912 : Int64) + (ushrL x (38 : Int32))) + u).toInt32.toUInt32.toUInt16.toUInt32.toInt32.toUInt32.toUInt16.toUInt32.toInt32).toInt = _ by omega); rw [e9]; exact vk_38 x.toInt (x.toInt / 274877906944) (x.toInt % 274877906944) u.toInt _ (by omega) (by omega) f4 (by omega) rfl⟩⟩
theorem run_27_39 {l : Launch} {Z : State} {a0 : Array Value} (hw : HW Z a0) {n0 : Nat} {h : Heap} (x : Int64) (hx0 : 0 ≤ x.toInt) (h1 : 562949953421312 ≤ x.toInt) (h2 : x.toInt < 1125899906842624) : WP l B1 Z n0 (fun v h' => h = h' ∧ ∃ r : Int32, v = some (.int r) ∧ ((4611686018427387904 ≤ x.toInt ∧ r.toInt = 65535) ∨ (x.toInt < 4611686018427387904 ∧ r.toInt ≤ 54272 ∧ 0 ≤ r.toInt ∧ x.toInt ≤ valF r.toInt ∧ (r.toInt = 0 ∨ valF (r.toInt - 1) < x.toInt)))) h 0 0 27 #[.val (.long x), .second, .val (.int (39 : Int32)), .unset, .unset] [] := by
  have k32_10 : (10 : Int32).toInt = 10 := by decide
  have k32_39 : (39 : Int32).toInt = 39 := by decide
  have k32_63 : (63 : Int32).toInt = 63 := by decide
  have k32_39936 : (39936 : Int32).toInt = 39936 := by decide
  have k64_1 : (1 : Int64).toInt = 1 := by decide
  have k64_39936 : (39936 : Int64).toInt = 39936 := by decide
  have k64_549755813887 : (549755813887 : Int64).toInt = 549755813887 := by decide
  have k64_549755813888 : (549755813888 : Int64).toInt = 549755813888 := by decide
  refine WP.lloadN d1_27 rfl (pc' := 28) rfl ?_
  refine WP.lconst1 d1_28 (pc' := 29) rfl ?_
  refine WP.iloadN d1_29 rfl (pc' := 30) rfl ?_
  refine WP.lshl d1_30 (pc' := 31) rfl ?_
  rw [show ((1 : Int64) <<< ((39 : Int32) &&& 63).toInt64) = (549755813888 : Int64) from by decide]
  refine WP.lconst1 d1_31 (pc' := 32) rfl ?_
  refine WP.lsub d1_32 (pc' := 33) rfl ?_
  rw [show (((549755813888 : Int64) - (1 : Int64)) : Int64) = (549755813887 : Int64) from by decide]
  refine WP.land d1_33 (pc' := 34) rfl ?_
  refine WP.lneg d1_34 (pc' := 35) rfl ?_
  refine WP.bipush d1_35 (z := (63 : Int32)) rfl (pc' := 37) rfl ?_
  refine WP.lushr d1_37 (pc' := 38) rfl ?_
  obtain ⟨u, e_u⟩ : ∃ z, z = (ushrL (-(x &&& (549755813887 : Int64))) (63 : Int32)) := ⟨_, rfl⟩
  rw [← e_u]
  refine WP.lstoreN d1_38 (pc' := 39) rfl (ls' := #[.val (.long x), .second, .val (.int (39 : Int32)), .val (.long u), .second]) rfl ?_
  have f1 : (x &&& (549755813887 : Int64)).toInt = x.toInt % 549755813888 := own_maskL _ _ 39 _ (by decide) (by decide) (by decide)
  have f2 : (-(x &&& (549755813887 : Int64))).toInt = -(x.toInt % 549755813888) := by have g1 := c_lneg (x &&& (549755813887 : Int64)); have g2 := own_r64 (-(x &&& (549755813887 : Int64))); omega
  have f3 : u.toInt = ((-(x &&& (549755813887 : Int64))).toInt % 18446744073709551616) / 9223372036854775808 := by rw [e_u]; exact c_lushr _ 63 63 (by decide) (by decide)
  have f4 : (x.toInt % 549755813888 = 0 ∧ u.toInt = 0) ∨ (0 < x.toInt % 549755813888 ∧ u.toInt = 1) := by omega
  clear f1 f2 f3
  refine WP.iloadN d1_39 rfl (pc' := 40) rfl ?_
  refine WP.bipush d1_40 (z := (10 : Int32)) rfl (pc' := 42) rfl ?_
  refine WP.ishl d1_42 (pc' := 43) rfl ?_
  rw [show ((39 : Int32) <<< ((10 : Int32) &&& 31)) = (39936 : Int32) from by decide]
  refine WP.i2l d1_43 (pc' := 44) rfl ?_
  rw [show (39936 : Int32).toInt64 = (39936 : Int64) from by decide]
  refine WP.lloadN d1_44 rfl (pc' := 45) rfl ?_
  refine WP.iloadN d1_45 rfl (pc' := 46) rfl ?_
  refine WP.lushr d1_46 (pc' := 47) rfl ?_
  refine WP.ladd d1_47 (pc' := 48) rfl ?_
  refine WP.lloadN d1_48 rfl (pc' := 49) rfl ?_
  refine WP.ladd d1_49 (pc' := 50) rfl ?_
  have g1 : (ushrL x (39 : Int32)).toInt = x.toInt / 549755813888 := by have q : (ushrL x (39 : Int32)).toInt = (x.toInt % 18446744073709551616) / 549755813888 := c_lushr x (39 : Int32) 39 (by decide) (by decide); omega
  have g2 : ((39936 : Int64) + (ushrL x (39 : Int32))).toInt = 39936 + x.toInt / 549755813888 := by rw [own_ladd] <;> omega
  have g3 : (((39936 : Int64) + (ushrL x (39 : Int32))) + u).toInt = 39936 + x.toInt / 549755813888 + u.toInt := by rw [own_ladd] <;> omega
  have g4 := c_l2i (((39936 : Int64) + (ushrL x (39 : Int32))) + u)
  have g5 := own_r32 (((39936 : Int64) + (ushrL x (39 : Int32))) + u).toInt32
  have g6 := c_i2c (((39936 : Int64) + (ushrL x (39 : Int32))) + u).toInt32
  have g7 := c_i2c ((((39936 : Int64) + (ushrL x (39 : Int32))) + u).toInt32.toUInt32.toUInt16.toUInt32.toInt32)
  refine WP.l2i d1_50 (pc' := 51) rfl ?_
  refine WP.i2c d1_51 (pc' := 52) rfl ?_
  exact WP.retN d1_52 (t := .char) rfl (by simp) (by decide) (by decide) ⟨rfl, _, rfl, Or.inr ⟨by omega, by have e9 : (nar .char ((((39936 : Int64) + (ushrL x (39 : Int32))) + u).toInt32.toUInt32.toUInt16.toUInt32.toInt32)).toInt = 39936 + x.toInt / 549755813888 + u.toInt := (show ((((39936 : Int64) + (ushrL x (39 : Int32))) + u).toInt32.toUInt32.toUInt16.toUInt32.toInt32.toUInt32.toUInt16.toUInt32.toInt32).toInt = _ by omega); rw [e9]; exact vk_39 x.toInt (x.toInt / 549755813888) (x.toInt % 549755813888) u.toInt _ (by omega) (by omega) f4 (by omega) rfl⟩⟩
theorem run_27_40 {l : Launch} {Z : State} {a0 : Array Value} (hw : HW Z a0) {n0 : Nat} {h : Heap} (x : Int64) (hx0 : 0 ≤ x.toInt) (h1 : 1125899906842624 ≤ x.toInt) (h2 : x.toInt < 2251799813685248) : WP l B1 Z n0 (fun v h' => h = h' ∧ ∃ r : Int32, v = some (.int r) ∧ ((4611686018427387904 ≤ x.toInt ∧ r.toInt = 65535) ∨ (x.toInt < 4611686018427387904 ∧ r.toInt ≤ 54272 ∧ 0 ≤ r.toInt ∧ x.toInt ≤ valF r.toInt ∧ (r.toInt = 0 ∨ valF (r.toInt - 1) < x.toInt)))) h 0 0 27 #[.val (.long x), .second, .val (.int (40 : Int32)), .unset, .unset] [] := by
  have k32_10 : (10 : Int32).toInt = 10 := by decide
  have k32_40 : (40 : Int32).toInt = 40 := by decide
  have k32_63 : (63 : Int32).toInt = 63 := by decide
  have k32_40960 : (40960 : Int32).toInt = 40960 := by decide
  have k64_1 : (1 : Int64).toInt = 1 := by decide
  have k64_40960 : (40960 : Int64).toInt = 40960 := by decide
  have k64_1099511627775 : (1099511627775 : Int64).toInt = 1099511627775 := by decide
  have k64_1099511627776 : (1099511627776 : Int64).toInt = 1099511627776 := by decide
  refine WP.lloadN d1_27 rfl (pc' := 28) rfl ?_
  refine WP.lconst1 d1_28 (pc' := 29) rfl ?_
  refine WP.iloadN d1_29 rfl (pc' := 30) rfl ?_
  refine WP.lshl d1_30 (pc' := 31) rfl ?_
  rw [show ((1 : Int64) <<< ((40 : Int32) &&& 63).toInt64) = (1099511627776 : Int64) from by decide]
  refine WP.lconst1 d1_31 (pc' := 32) rfl ?_
  refine WP.lsub d1_32 (pc' := 33) rfl ?_
  rw [show (((1099511627776 : Int64) - (1 : Int64)) : Int64) = (1099511627775 : Int64) from by decide]
  refine WP.land d1_33 (pc' := 34) rfl ?_
  refine WP.lneg d1_34 (pc' := 35) rfl ?_
  refine WP.bipush d1_35 (z := (63 : Int32)) rfl (pc' := 37) rfl ?_
  refine WP.lushr d1_37 (pc' := 38) rfl ?_
  obtain ⟨u, e_u⟩ : ∃ z, z = (ushrL (-(x &&& (1099511627775 : Int64))) (63 : Int32)) := ⟨_, rfl⟩
  rw [← e_u]
  refine WP.lstoreN d1_38 (pc' := 39) rfl (ls' := #[.val (.long x), .second, .val (.int (40 : Int32)), .val (.long u), .second]) rfl ?_
  have f1 : (x &&& (1099511627775 : Int64)).toInt = x.toInt % 1099511627776 := own_maskL _ _ 40 _ (by decide) (by decide) (by decide)
  have f2 : (-(x &&& (1099511627775 : Int64))).toInt = -(x.toInt % 1099511627776) := by have g1 := c_lneg (x &&& (1099511627775 : Int64)); have g2 := own_r64 (-(x &&& (1099511627775 : Int64))); omega
  have f3 : u.toInt = ((-(x &&& (1099511627775 : Int64))).toInt % 18446744073709551616) / 9223372036854775808 := by rw [e_u]; exact c_lushr _ 63 63 (by decide) (by decide)
  have f4 : (x.toInt % 1099511627776 = 0 ∧ u.toInt = 0) ∨ (0 < x.toInt % 1099511627776 ∧ u.toInt = 1) := by omega
  clear f1 f2 f3
  refine WP.iloadN d1_39 rfl (pc' := 40) rfl ?_
  refine WP.bipush d1_40 (z := (10 : Int32)) rfl (pc' := 42) rfl ?_
  refine WP.ishl d1_42 (pc' := 43) rfl ?_
  rw [show ((40 : Int32) <<< ((10 : Int32) &&& 31)) = (40960 : Int32) from by decide]
  refine WP.i2l d1_43 (pc' := 44) rfl ?_
  rw [show (40960 : Int32).toInt64 = (40960 : Int64) from by decide]
  refine WP.lloadN d1_44 rfl (pc' := 45) rfl ?_
  refine WP.iloadN d1_45 rfl (pc' := 46) rfl ?_
  refine WP.lushr d1_46 (pc' := 47) rfl ?_
  refine WP.ladd d1_47 (pc' := 48) rfl ?_
  refine WP.lloadN d1_48 rfl (pc' := 49) rfl ?_
  refine WP.ladd d1_49 (pc' := 50) rfl ?_
  have g1 : (ushrL x (40 : Int32)).toInt = x.toInt / 1099511627776 := by have q : (ushrL x (40 : Int32)).toInt = (x.toInt % 18446744073709551616) / 1099511627776 := c_lushr x (40 : Int32) 40 (by decide) (by decide); omega
  have g2 : ((40960 : Int64) + (ushrL x (40 : Int32))).toInt = 40960 + x.toInt / 1099511627776 := by rw [own_ladd] <;> omega
  have g3 : (((40960 : Int64) + (ushrL x (40 : Int32))) + u).toInt = 40960 + x.toInt / 1099511627776 + u.toInt := by rw [own_ladd] <;> omega
  have g4 := c_l2i (((40960 : Int64) + (ushrL x (40 : Int32))) + u)
  have g5 := own_r32 (((40960 : Int64) + (ushrL x (40 : Int32))) + u).toInt32
  have g6 := c_i2c (((40960 : Int64) + (ushrL x (40 : Int32))) + u).toInt32
  have g7 := c_i2c ((((40960 : Int64) + (ushrL x (40 : Int32))) + u).toInt32.toUInt32.toUInt16.toUInt32.toInt32)
  refine WP.l2i d1_50 (pc' := 51) rfl ?_
  refine WP.i2c d1_51 (pc' := 52) rfl ?_
  exact WP.retN d1_52 (t := .char) rfl (by simp) (by decide) (by decide) ⟨rfl, _, rfl, Or.inr ⟨by omega, by have e9 : (nar .char ((((40960 : Int64) + (ushrL x (40 : Int32))) + u).toInt32.toUInt32.toUInt16.toUInt32.toInt32)).toInt = 40960 + x.toInt / 1099511627776 + u.toInt := (show ((((40960 : Int64) + (ushrL x (40 : Int32))) + u).toInt32.toUInt32.toUInt16.toUInt32.toInt32.toUInt32.toUInt16.toUInt32.toInt32).toInt = _ by omega); rw [e9]; exact vk_40 x.toInt (x.toInt / 1099511627776) (x.toInt % 1099511627776) u.toInt _ (by omega) (by omega) f4 (by omega) rfl⟩⟩
theorem run_27_41 {l : Launch} {Z : State} {a0 : Array Value} (hw : HW Z a0) {n0 : Nat} {h : Heap} (x : Int64) (hx0 : 0 ≤ x.toInt) (h1 : 2251799813685248 ≤ x.toInt) (h2 : x.toInt < 4503599627370496) : WP l B1 Z n0 (fun v h' => h = h' ∧ ∃ r : Int32, v = some (.int r) ∧ ((4611686018427387904 ≤ x.toInt ∧ r.toInt = 65535) ∨ (x.toInt < 4611686018427387904 ∧ r.toInt ≤ 54272 ∧ 0 ≤ r.toInt ∧ x.toInt ≤ valF r.toInt ∧ (r.toInt = 0 ∨ valF (r.toInt - 1) < x.toInt)))) h 0 0 27 #[.val (.long x), .second, .val (.int (41 : Int32)), .unset, .unset] [] := by
  have k32_10 : (10 : Int32).toInt = 10 := by decide
  have k32_41 : (41 : Int32).toInt = 41 := by decide
  have k32_63 : (63 : Int32).toInt = 63 := by decide
  have k32_41984 : (41984 : Int32).toInt = 41984 := by decide
  have k64_1 : (1 : Int64).toInt = 1 := by decide
  have k64_41984 : (41984 : Int64).toInt = 41984 := by decide
  have k64_2199023255551 : (2199023255551 : Int64).toInt = 2199023255551 := by decide
  have k64_2199023255552 : (2199023255552 : Int64).toInt = 2199023255552 := by decide
  refine WP.lloadN d1_27 rfl (pc' := 28) rfl ?_
  refine WP.lconst1 d1_28 (pc' := 29) rfl ?_
  refine WP.iloadN d1_29 rfl (pc' := 30) rfl ?_
  refine WP.lshl d1_30 (pc' := 31) rfl ?_
  rw [show ((1 : Int64) <<< ((41 : Int32) &&& 63).toInt64) = (2199023255552 : Int64) from by decide]
  refine WP.lconst1 d1_31 (pc' := 32) rfl ?_
  refine WP.lsub d1_32 (pc' := 33) rfl ?_
  rw [show (((2199023255552 : Int64) - (1 : Int64)) : Int64) = (2199023255551 : Int64) from by decide]
  refine WP.land d1_33 (pc' := 34) rfl ?_
  refine WP.lneg d1_34 (pc' := 35) rfl ?_
  refine WP.bipush d1_35 (z := (63 : Int32)) rfl (pc' := 37) rfl ?_
  refine WP.lushr d1_37 (pc' := 38) rfl ?_
  obtain ⟨u, e_u⟩ : ∃ z, z = (ushrL (-(x &&& (2199023255551 : Int64))) (63 : Int32)) := ⟨_, rfl⟩
  rw [← e_u]
  refine WP.lstoreN d1_38 (pc' := 39) rfl (ls' := #[.val (.long x), .second, .val (.int (41 : Int32)), .val (.long u), .second]) rfl ?_
  have f1 : (x &&& (2199023255551 : Int64)).toInt = x.toInt % 2199023255552 := own_maskL _ _ 41 _ (by decide) (by decide) (by decide)
  have f2 : (-(x &&& (2199023255551 : Int64))).toInt = -(x.toInt % 2199023255552) := by have g1 := c_lneg (x &&& (2199023255551 : Int64)); have g2 := own_r64 (-(x &&& (2199023255551 : Int64))); omega
  have f3 : u.toInt = ((-(x &&& (2199023255551 : Int64))).toInt % 18446744073709551616) / 9223372036854775808 := by rw [e_u]; exact c_lushr _ 63 63 (by decide) (by decide)
  have f4 : (x.toInt % 2199023255552 = 0 ∧ u.toInt = 0) ∨ (0 < x.toInt % 2199023255552 ∧ u.toInt = 1) := by omega
  clear f1 f2 f3
  refine WP.iloadN d1_39 rfl (pc' := 40) rfl ?_
  refine WP.bipush d1_40 (z := (10 : Int32)) rfl (pc' := 42) rfl ?_
  refine WP.ishl d1_42 (pc' := 43) rfl ?_
  rw [show ((41 : Int32) <<< ((10 : Int32) &&& 31)) = (41984 : Int32) from by decide]
  refine WP.i2l d1_43 (pc' := 44) rfl ?_
  rw [show (41984 : Int32).toInt64 = (41984 : Int64) from by decide]
  refine WP.lloadN d1_44 rfl (pc' := 45) rfl ?_
  refine WP.iloadN d1_45 rfl (pc' := 46) rfl ?_
  refine WP.lushr d1_46 (pc' := 47) rfl ?_
  refine WP.ladd d1_47 (pc' := 48) rfl ?_
  refine WP.lloadN d1_48 rfl (pc' := 49) rfl ?_
  refine WP.ladd d1_49 (pc' := 50) rfl ?_
  have g1 : (ushrL x (41 : Int32)).toInt = x.toInt / 2199023255552 := by have q : (ushrL x (41 : Int32)).toInt = (x.toInt % 18446744073709551616) / 2199023255552 := c_lushr x (41 : Int32) 41 (by decide) (by decide); omega
  have g2 : ((41984 : Int64) + (ushrL x (41 : Int32))).toInt = 41984 + x.toInt / 2199023255552 := by rw [own_ladd] <;> omega
  have g3 : (((41984 : Int64) + (ushrL x (41 : Int32))) + u).toInt = 41984 + x.toInt / 2199023255552 + u.toInt := by rw [own_ladd] <;> omega
  have g4 := c_l2i (((41984 : Int64) + (ushrL x (41 : Int32))) + u)
  have g5 := own_r32 (((41984 : Int64) + (ushrL x (41 : Int32))) + u).toInt32
  have g6 := c_i2c (((41984 : Int64) + (ushrL x (41 : Int32))) + u).toInt32
  have g7 := c_i2c ((((41984 : Int64) + (ushrL x (41 : Int32))) + u).toInt32.toUInt32.toUInt16.toUInt32.toInt32)
  refine WP.l2i d1_50 (pc' := 51) rfl ?_
  refine WP.i2c d1_51 (pc' := 52) rfl ?_
  exact WP.retN d1_52 (t := .char) rfl (by simp) (by decide) (by decide) ⟨rfl, _, rfl, Or.inr ⟨by omega, by have e9 : (nar .char ((((41984 : Int64) + (ushrL x (41 : Int32))) + u).toInt32.toUInt32.toUInt16.toUInt32.toInt32)).toInt = 41984 + x.toInt / 2199023255552 + u.toInt := (show ((((41984 : Int64) + (ushrL x (41 : Int32))) + u).toInt32.toUInt32.toUInt16.toUInt32.toInt32.toUInt32.toUInt16.toUInt32.toInt32).toInt = _ by omega); rw [e9]; exact vk_41 x.toInt (x.toInt / 2199023255552) (x.toInt % 2199023255552) u.toInt _ (by omega) (by omega) f4 (by omega) rfl⟩⟩
theorem run_27_42 {l : Launch} {Z : State} {a0 : Array Value} (hw : HW Z a0) {n0 : Nat} {h : Heap} (x : Int64) (hx0 : 0 ≤ x.toInt) (h1 : 4503599627370496 ≤ x.toInt) (h2 : x.toInt < 9007199254740992) : WP l B1 Z n0 (fun v h' => h = h' ∧ ∃ r : Int32, v = some (.int r) ∧ ((4611686018427387904 ≤ x.toInt ∧ r.toInt = 65535) ∨ (x.toInt < 4611686018427387904 ∧ r.toInt ≤ 54272 ∧ 0 ≤ r.toInt ∧ x.toInt ≤ valF r.toInt ∧ (r.toInt = 0 ∨ valF (r.toInt - 1) < x.toInt)))) h 0 0 27 #[.val (.long x), .second, .val (.int (42 : Int32)), .unset, .unset] [] := by
  have k32_10 : (10 : Int32).toInt = 10 := by decide
  have k32_42 : (42 : Int32).toInt = 42 := by decide
  have k32_63 : (63 : Int32).toInt = 63 := by decide
  have k32_43008 : (43008 : Int32).toInt = 43008 := by decide
  have k64_1 : (1 : Int64).toInt = 1 := by decide
  have k64_43008 : (43008 : Int64).toInt = 43008 := by decide
  have k64_4398046511103 : (4398046511103 : Int64).toInt = 4398046511103 := by decide
  have k64_4398046511104 : (4398046511104 : Int64).toInt = 4398046511104 := by decide
  refine WP.lloadN d1_27 rfl (pc' := 28) rfl ?_
  refine WP.lconst1 d1_28 (pc' := 29) rfl ?_
  refine WP.iloadN d1_29 rfl (pc' := 30) rfl ?_
  refine WP.lshl d1_30 (pc' := 31) rfl ?_
  rw [show ((1 : Int64) <<< ((42 : Int32) &&& 63).toInt64) = (4398046511104 : Int64) from by decide]
  refine WP.lconst1 d1_31 (pc' := 32) rfl ?_
  refine WP.lsub d1_32 (pc' := 33) rfl ?_
  rw [show (((4398046511104 : Int64) - (1 : Int64)) : Int64) = (4398046511103 : Int64) from by decide]
  refine WP.land d1_33 (pc' := 34) rfl ?_
  refine WP.lneg d1_34 (pc' := 35) rfl ?_
  refine WP.bipush d1_35 (z := (63 : Int32)) rfl (pc' := 37) rfl ?_
  refine WP.lushr d1_37 (pc' := 38) rfl ?_
  obtain ⟨u, e_u⟩ : ∃ z, z = (ushrL (-(x &&& (4398046511103 : Int64))) (63 : Int32)) := ⟨_, rfl⟩
  rw [← e_u]
  refine WP.lstoreN d1_38 (pc' := 39) rfl (ls' := #[.val (.long x), .second, .val (.int (42 : Int32)), .val (.long u), .second]) rfl ?_
  have f1 : (x &&& (4398046511103 : Int64)).toInt = x.toInt % 4398046511104 := own_maskL _ _ 42 _ (by decide) (by decide) (by decide)
  have f2 : (-(x &&& (4398046511103 : Int64))).toInt = -(x.toInt % 4398046511104) := by have g1 := c_lneg (x &&& (4398046511103 : Int64)); have g2 := own_r64 (-(x &&& (4398046511103 : Int64))); omega
  have f3 : u.toInt = ((-(x &&& (4398046511103 : Int64))).toInt % 18446744073709551616) / 9223372036854775808 := by rw [e_u]; exact c_lushr _ 63 63 (by decide) (by decide)
  have f4 : (x.toInt % 4398046511104 = 0 ∧ u.toInt = 0) ∨ (0 < x.toInt % 4398046511104 ∧ u.toInt = 1) := by omega
  clear f1 f2 f3
  refine WP.iloadN d1_39 rfl (pc' := 40) rfl ?_
  refine WP.bipush d1_40 (z := (10 : Int32)) rfl (pc' := 42) rfl ?_
  refine WP.ishl d1_42 (pc' := 43) rfl ?_
  rw [show ((42 : Int32) <<< ((10 : Int32) &&& 31)) = (43008 : Int32) from by decide]
  refine WP.i2l d1_43 (pc' := 44) rfl ?_
  rw [show (43008 : Int32).toInt64 = (43008 : Int64) from by decide]
  refine WP.lloadN d1_44 rfl (pc' := 45) rfl ?_
  refine WP.iloadN d1_45 rfl (pc' := 46) rfl ?_
  refine WP.lushr d1_46 (pc' := 47) rfl ?_
  refine WP.ladd d1_47 (pc' := 48) rfl ?_
  refine WP.lloadN d1_48 rfl (pc' := 49) rfl ?_
  refine WP.ladd d1_49 (pc' := 50) rfl ?_
  have g1 : (ushrL x (42 : Int32)).toInt = x.toInt / 4398046511104 := by have q : (ushrL x (42 : Int32)).toInt = (x.toInt % 18446744073709551616) / 4398046511104 := c_lushr x (42 : Int32) 42 (by decide) (by decide); omega
  have g2 : ((43008 : Int64) + (ushrL x (42 : Int32))).toInt = 43008 + x.toInt / 4398046511104 := by rw [own_ladd] <;> omega
  have g3 : (((43008 : Int64) + (ushrL x (42 : Int32))) + u).toInt = 43008 + x.toInt / 4398046511104 + u.toInt := by rw [own_ladd] <;> omega
  have g4 := c_l2i (((43008 : Int64) + (ushrL x (42 : Int32))) + u)
  have g5 := own_r32 (((43008 : Int64) + (ushrL x (42 : Int32))) + u).toInt32
  have g6 := c_i2c (((43008 : Int64) + (ushrL x (42 : Int32))) + u).toInt32
  have g7 := c_i2c ((((43008 : Int64) + (ushrL x (42 : Int32))) + u).toInt32.toUInt32.toUInt16.toUInt32.toInt32)
  refine WP.l2i d1_50 (pc' := 51) rfl ?_
  refine WP.i2c d1_51 (pc' := 52) rfl ?_
  exact WP.retN d1_52 (t := .char) rfl (by simp) (by decide) (by decide) ⟨rfl, _, rfl, Or.inr ⟨by omega, by have e9 : (nar .char ((((43008 : Int64) + (ushrL x (42 : Int32))) + u).toInt32.toUInt32.toUInt16.toUInt32.toInt32)).toInt = 43008 + x.toInt / 4398046511104 + u.toInt := (show ((((43008 : Int64) + (ushrL x (42 : Int32))) + u).toInt32.toUInt32.toUInt16.toUInt32.toInt32.toUInt32.toUInt16.toUInt32.toInt32).toInt = _ by omega); rw [e9]; exact vk_42 x.toInt (x.toInt / 4398046511104) (x.toInt % 4398046511104) u.toInt _ (by omega) (by omega) f4 (by omega) rfl⟩⟩
theorem run_27_43 {l : Launch} {Z : State} {a0 : Array Value} (hw : HW Z a0) {n0 : Nat} {h : Heap} (x : Int64) (hx0 : 0 ≤ x.toInt) (h1 : 9007199254740992 ≤ x.toInt) (h2 : x.toInt < 18014398509481984) : WP l B1 Z n0 (fun v h' => h = h' ∧ ∃ r : Int32, v = some (.int r) ∧ ((4611686018427387904 ≤ x.toInt ∧ r.toInt = 65535) ∨ (x.toInt < 4611686018427387904 ∧ r.toInt ≤ 54272 ∧ 0 ≤ r.toInt ∧ x.toInt ≤ valF r.toInt ∧ (r.toInt = 0 ∨ valF (r.toInt - 1) < x.toInt)))) h 0 0 27 #[.val (.long x), .second, .val (.int (43 : Int32)), .unset, .unset] [] := by
  have k32_10 : (10 : Int32).toInt = 10 := by decide
  have k32_43 : (43 : Int32).toInt = 43 := by decide
  have k32_63 : (63 : Int32).toInt = 63 := by decide
  have k32_44032 : (44032 : Int32).toInt = 44032 := by decide
  have k64_1 : (1 : Int64).toInt = 1 := by decide
  have k64_44032 : (44032 : Int64).toInt = 44032 := by decide
  have k64_8796093022207 : (8796093022207 : Int64).toInt = 8796093022207 := by decide
  have k64_8796093022208 : (8796093022208 : Int64).toInt = 8796093022208 := by decide
  refine WP.lloadN d1_27 rfl (pc' := 28) rfl ?_
  refine WP.lconst1 d1_28 (pc' := 29) rfl ?_
  refine WP.iloadN d1_29 rfl (pc' := 30) rfl ?_
  refine WP.lshl d1_30 (pc' := 31) rfl ?_
  rw [show ((1 : Int64) <<< ((43 : Int32) &&& 63).toInt64) = (8796093022208 : Int64) from by decide]
  refine WP.lconst1 d1_31 (pc' := 32) rfl ?_
  refine WP.lsub d1_32 (pc' := 33) rfl ?_
  rw [show (((8796093022208 : Int64) - (1 : Int64)) : Int64) = (8796093022207 : Int64) from by decide]
  refine WP.land d1_33 (pc' := 34) rfl ?_
  refine WP.lneg d1_34 (pc' := 35) rfl ?_
  refine WP.bipush d1_35 (z := (63 : Int32)) rfl (pc' := 37) rfl ?_
  refine WP.lushr d1_37 (pc' := 38) rfl ?_
  obtain ⟨u, e_u⟩ : ∃ z, z = (ushrL (-(x &&& (8796093022207 : Int64))) (63 : Int32)) := ⟨_, rfl⟩
  rw [← e_u]
  refine WP.lstoreN d1_38 (pc' := 39) rfl (ls' := #[.val (.long x), .second, .val (.int (43 : Int32)), .val (.long u), .second]) rfl ?_
  have f1 : (x &&& (8796093022207 : Int64)).toInt = x.toInt % 8796093022208 := own_maskL _ _ 43 _ (by decide) (by decide) (by decide)
  have f2 : (-(x &&& (8796093022207 : Int64))).toInt = -(x.toInt % 8796093022208) := by have g1 := c_lneg (x &&& (8796093022207 : Int64)); have g2 := own_r64 (-(x &&& (8796093022207 : Int64))); omega
  have f3 : u.toInt = ((-(x &&& (8796093022207 : Int64))).toInt % 18446744073709551616) / 9223372036854775808 := by rw [e_u]; exact c_lushr _ 63 63 (by decide) (by decide)
  have f4 : (x.toInt % 8796093022208 = 0 ∧ u.toInt = 0) ∨ (0 < x.toInt % 8796093022208 ∧ u.toInt = 1) := by omega
  clear f1 f2 f3
  refine WP.iloadN d1_39 rfl (pc' := 40) rfl ?_
  refine WP.bipush d1_40 (z := (10 : Int32)) rfl (pc' := 42) rfl ?_
  refine WP.ishl d1_42 (pc' := 43) rfl ?_
  rw [show ((43 : Int32) <<< ((10 : Int32) &&& 31)) = (44032 : Int32) from by decide]
  refine WP.i2l d1_43 (pc' := 44) rfl ?_
  rw [show (44032 : Int32).toInt64 = (44032 : Int64) from by decide]
  refine WP.lloadN d1_44 rfl (pc' := 45) rfl ?_
  refine WP.iloadN d1_45 rfl (pc' := 46) rfl ?_
  refine WP.lushr d1_46 (pc' := 47) rfl ?_
  refine WP.ladd d1_47 (pc' := 48) rfl ?_
  refine WP.lloadN d1_48 rfl (pc' := 49) rfl ?_
  refine WP.ladd d1_49 (pc' := 50) rfl ?_
  have g1 : (ushrL x (43 : Int32)).toInt = x.toInt / 8796093022208 := by have q : (ushrL x (43 : Int32)).toInt = (x.toInt % 18446744073709551616) / 8796093022208 := c_lushr x (43 : Int32) 43 (by decide) (by decide); omega
  have g2 : ((44032 : Int64) + (ushrL x (43 : Int32))).toInt = 44032 + x.toInt / 8796093022208 := by rw [own_ladd] <;> omega
  have g3 : (((44032 : Int64) + (ushrL x (43 : Int32))) + u).toInt = 44032 + x.toInt / 8796093022208 + u.toInt := by rw [own_ladd] <;> omega
  have g4 := c_l2i (((44032 : Int64) + (ushrL x (43 : Int32))) + u)
  have g5 := own_r32 (((44032 : Int64) + (ushrL x (43 : Int32))) + u).toInt32
  have g6 := c_i2c (((44032 : Int64) + (ushrL x (43 : Int32))) + u).toInt32
  have g7 := c_i2c ((((44032 : Int64) + (ushrL x (43 : Int32))) + u).toInt32.toUInt32.toUInt16.toUInt32.toInt32)
  refine WP.l2i d1_50 (pc' := 51) rfl ?_
  refine WP.i2c d1_51 (pc' := 52) rfl ?_
  exact WP.retN d1_52 (t := .char) rfl (by simp) (by decide) (by decide) ⟨rfl, _, rfl, Or.inr ⟨by omega, by have e9 : (nar .char ((((44032 : Int64) + (ushrL x (43 : Int32))) + u).toInt32.toUInt32.toUInt16.toUInt32.toInt32)).toInt = 44032 + x.toInt / 8796093022208 + u.toInt := (show ((((44032 : Int64) + (ushrL x (43 : Int32))) + u).toInt32.toUInt32.toUInt16.toUInt32.toInt32.toUInt32.toUInt16.toUInt32.toInt32).toInt = _ by omega); rw [e9]; exact vk_43 x.toInt (x.toInt / 8796093022208) (x.toInt % 8796093022208) u.toInt _ (by omega) (by omega) f4 (by omega) rfl⟩⟩
theorem run_27_44 {l : Launch} {Z : State} {a0 : Array Value} (hw : HW Z a0) {n0 : Nat} {h : Heap} (x : Int64) (hx0 : 0 ≤ x.toInt) (h1 : 18014398509481984 ≤ x.toInt) (h2 : x.toInt < 36028797018963968) : WP l B1 Z n0 (fun v h' => h = h' ∧ ∃ r : Int32, v = some (.int r) ∧ ((4611686018427387904 ≤ x.toInt ∧ r.toInt = 65535) ∨ (x.toInt < 4611686018427387904 ∧ r.toInt ≤ 54272 ∧ 0 ≤ r.toInt ∧ x.toInt ≤ valF r.toInt ∧ (r.toInt = 0 ∨ valF (r.toInt - 1) < x.toInt)))) h 0 0 27 #[.val (.long x), .second, .val (.int (44 : Int32)), .unset, .unset] [] := by
  have k32_10 : (10 : Int32).toInt = 10 := by decide
  have k32_44 : (44 : Int32).toInt = 44 := by decide
  have k32_63 : (63 : Int32).toInt = 63 := by decide
  have k32_45056 : (45056 : Int32).toInt = 45056 := by decide
  have k64_1 : (1 : Int64).toInt = 1 := by decide
  have k64_45056 : (45056 : Int64).toInt = 45056 := by decide
  have k64_17592186044415 : (17592186044415 : Int64).toInt = 17592186044415 := by decide
  have k64_17592186044416 : (17592186044416 : Int64).toInt = 17592186044416 := by decide
  refine WP.lloadN d1_27 rfl (pc' := 28) rfl ?_
  refine WP.lconst1 d1_28 (pc' := 29) rfl ?_
  refine WP.iloadN d1_29 rfl (pc' := 30) rfl ?_
  refine WP.lshl d1_30 (pc' := 31) rfl ?_
  rw [show ((1 : Int64) <<< ((44 : Int32) &&& 63).toInt64) = (17592186044416 : Int64) from by decide]
  refine WP.lconst1 d1_31 (pc' := 32) rfl ?_
  refine WP.lsub d1_32 (pc' := 33) rfl ?_
  rw [show (((17592186044416 : Int64) - (1 : Int64)) : Int64) = (17592186044415 : Int64) from by decide]
  refine WP.land d1_33 (pc' := 34) rfl ?_
  refine WP.lneg d1_34 (pc' := 35) rfl ?_
  refine WP.bipush d1_35 (z := (63 : Int32)) rfl (pc' := 37) rfl ?_
  refine WP.lushr d1_37 (pc' := 38) rfl ?_
  obtain ⟨u, e_u⟩ : ∃ z, z = (ushrL (-(x &&& (17592186044415 : Int64))) (63 : Int32)) := ⟨_, rfl⟩
  rw [← e_u]
  refine WP.lstoreN d1_38 (pc' := 39) rfl (ls' := #[.val (.long x), .second, .val (.int (44 : Int32)), .val (.long u), .second]) rfl ?_
  have f1 : (x &&& (17592186044415 : Int64)).toInt = x.toInt % 17592186044416 := own_maskL _ _ 44 _ (by decide) (by decide) (by decide)
  have f2 : (-(x &&& (17592186044415 : Int64))).toInt = -(x.toInt % 17592186044416) := by have g1 := c_lneg (x &&& (17592186044415 : Int64)); have g2 := own_r64 (-(x &&& (17592186044415 : Int64))); omega
  have f3 : u.toInt = ((-(x &&& (17592186044415 : Int64))).toInt % 18446744073709551616) / 9223372036854775808 := by rw [e_u]; exact c_lushr _ 63 63 (by decide) (by decide)
  have f4 : (x.toInt % 17592186044416 = 0 ∧ u.toInt = 0) ∨ (0 < x.toInt % 17592186044416 ∧ u.toInt = 1) := by omega
  clear f1 f2 f3
  refine WP.iloadN d1_39 rfl (pc' := 40) rfl ?_
  refine WP.bipush d1_40 (z := (10 : Int32)) rfl (pc' := 42) rfl ?_
  refine WP.ishl d1_42 (pc' := 43) rfl ?_
  rw [show ((44 : Int32) <<< ((10 : Int32) &&& 31)) = (45056 : Int32) from by decide]
  refine WP.i2l d1_43 (pc' := 44) rfl ?_
  rw [show (45056 : Int32).toInt64 = (45056 : Int64) from by decide]
  refine WP.lloadN d1_44 rfl (pc' := 45) rfl ?_
  refine WP.iloadN d1_45 rfl (pc' := 46) rfl ?_
  refine WP.lushr d1_46 (pc' := 47) rfl ?_
  refine WP.ladd d1_47 (pc' := 48) rfl ?_
  refine WP.lloadN d1_48 rfl (pc' := 49) rfl ?_
  refine WP.ladd d1_49 (pc' := 50) rfl ?_
  have g1 : (ushrL x (44 : Int32)).toInt = x.toInt / 17592186044416 := by have q : (ushrL x (44 : Int32)).toInt = (x.toInt % 18446744073709551616) / 17592186044416 := c_lushr x (44 : Int32) 44 (by decide) (by decide); omega
  have g2 : ((45056 : Int64) + (ushrL x (44 : Int32))).toInt = 45056 + x.toInt / 17592186044416 := by rw [own_ladd] <;> omega
  have g3 : (((45056 : Int64) + (ushrL x (44 : Int32))) + u).toInt = 45056 + x.toInt / 17592186044416 + u.toInt := by rw [own_ladd] <;> omega
  have g4 := c_l2i (((45056 : Int64) + (ushrL x (44 : Int32))) + u)
  have g5 := own_r32 (((45056 : Int64) + (ushrL x (44 : Int32))) + u).toInt32
  have g6 := c_i2c (((45056 : Int64) + (ushrL x (44 : Int32))) + u).toInt32
  have g7 := c_i2c ((((45056 : Int64) + (ushrL x (44 : Int32))) + u).toInt32.toUInt32.toUInt16.toUInt32.toInt32)
  refine WP.l2i d1_50 (pc' := 51) rfl ?_
  refine WP.i2c d1_51 (pc' := 52) rfl ?_
  exact WP.retN d1_52 (t := .char) rfl (by simp) (by decide) (by decide) ⟨rfl, _, rfl, Or.inr ⟨by omega, by have e9 : (nar .char ((((45056 : Int64) + (ushrL x (44 : Int32))) + u).toInt32.toUInt32.toUInt16.toUInt32.toInt32)).toInt = 45056 + x.toInt / 17592186044416 + u.toInt := (show ((((45056 : Int64) + (ushrL x (44 : Int32))) + u).toInt32.toUInt32.toUInt16.toUInt32.toInt32.toUInt32.toUInt16.toUInt32.toInt32).toInt = _ by omega); rw [e9]; exact vk_44 x.toInt (x.toInt / 17592186044416) (x.toInt % 17592186044416) u.toInt _ (by omega) (by omega) f4 (by omega) rfl⟩⟩
theorem run_27_45 {l : Launch} {Z : State} {a0 : Array Value} (hw : HW Z a0) {n0 : Nat} {h : Heap} (x : Int64) (hx0 : 0 ≤ x.toInt) (h1 : 36028797018963968 ≤ x.toInt) (h2 : x.toInt < 72057594037927936) : WP l B1 Z n0 (fun v h' => h = h' ∧ ∃ r : Int32, v = some (.int r) ∧ ((4611686018427387904 ≤ x.toInt ∧ r.toInt = 65535) ∨ (x.toInt < 4611686018427387904 ∧ r.toInt ≤ 54272 ∧ 0 ≤ r.toInt ∧ x.toInt ≤ valF r.toInt ∧ (r.toInt = 0 ∨ valF (r.toInt - 1) < x.toInt)))) h 0 0 27 #[.val (.long x), .second, .val (.int (45 : Int32)), .unset, .unset] [] := by
  have k32_10 : (10 : Int32).toInt = 10 := by decide
  have k32_45 : (45 : Int32).toInt = 45 := by decide
  have k32_63 : (63 : Int32).toInt = 63 := by decide
  have k32_46080 : (46080 : Int32).toInt = 46080 := by decide
  have k64_1 : (1 : Int64).toInt = 1 := by decide
  have k64_46080 : (46080 : Int64).toInt = 46080 := by decide
  have k64_35184372088831 : (35184372088831 : Int64).toInt = 35184372088831 := by decide
  have k64_35184372088832 : (35184372088832 : Int64).toInt = 35184372088832 := by decide
  refine WP.lloadN d1_27 rfl (pc' := 28) rfl ?_
  refine WP.lconst1 d1_28 (pc' := 29) rfl ?_
  refine WP.iloadN d1_29 rfl (pc' := 30) rfl ?_
  refine WP.lshl d1_30 (pc' := 31) rfl ?_
  rw [show ((1 : Int64) <<< ((45 : Int32) &&& 63).toInt64) = (35184372088832 : Int64) from by decide]
  refine WP.lconst1 d1_31 (pc' := 32) rfl ?_
  refine WP.lsub d1_32 (pc' := 33) rfl ?_
  rw [show (((35184372088832 : Int64) - (1 : Int64)) : Int64) = (35184372088831 : Int64) from by decide]
  refine WP.land d1_33 (pc' := 34) rfl ?_
  refine WP.lneg d1_34 (pc' := 35) rfl ?_
  refine WP.bipush d1_35 (z := (63 : Int32)) rfl (pc' := 37) rfl ?_
  refine WP.lushr d1_37 (pc' := 38) rfl ?_
  obtain ⟨u, e_u⟩ : ∃ z, z = (ushrL (-(x &&& (35184372088831 : Int64))) (63 : Int32)) := ⟨_, rfl⟩
  rw [← e_u]
  refine WP.lstoreN d1_38 (pc' := 39) rfl (ls' := #[.val (.long x), .second, .val (.int (45 : Int32)), .val (.long u), .second]) rfl ?_
  have f1 : (x &&& (35184372088831 : Int64)).toInt = x.toInt % 35184372088832 := own_maskL _ _ 45 _ (by decide) (by decide) (by decide)
  have f2 : (-(x &&& (35184372088831 : Int64))).toInt = -(x.toInt % 35184372088832) := by have g1 := c_lneg (x &&& (35184372088831 : Int64)); have g2 := own_r64 (-(x &&& (35184372088831 : Int64))); omega
  have f3 : u.toInt = ((-(x &&& (35184372088831 : Int64))).toInt % 18446744073709551616) / 9223372036854775808 := by rw [e_u]; exact c_lushr _ 63 63 (by decide) (by decide)
  have f4 : (x.toInt % 35184372088832 = 0 ∧ u.toInt = 0) ∨ (0 < x.toInt % 35184372088832 ∧ u.toInt = 1) := by omega
  clear f1 f2 f3
  refine WP.iloadN d1_39 rfl (pc' := 40) rfl ?_
  refine WP.bipush d1_40 (z := (10 : Int32)) rfl (pc' := 42) rfl ?_
  refine WP.ishl d1_42 (pc' := 43) rfl ?_
  rw [show ((45 : Int32) <<< ((10 : Int32) &&& 31)) = (46080 : Int32) from by decide]
  refine WP.i2l d1_43 (pc' := 44) rfl ?_
  rw [show (46080 : Int32).toInt64 = (46080 : Int64) from by decide]
  refine WP.lloadN d1_44 rfl (pc' := 45) rfl ?_
  refine WP.iloadN d1_45 rfl (pc' := 46) rfl ?_
  refine WP.lushr d1_46 (pc' := 47) rfl ?_
  refine WP.ladd d1_47 (pc' := 48) rfl ?_
  refine WP.lloadN d1_48 rfl (pc' := 49) rfl ?_
  refine WP.ladd d1_49 (pc' := 50) rfl ?_
  have g1 : (ushrL x (45 : Int32)).toInt = x.toInt / 35184372088832 := by have q : (ushrL x (45 : Int32)).toInt = (x.toInt % 18446744073709551616) / 35184372088832 := c_lushr x (45 : Int32) 45 (by decide) (by decide); omega
  have g2 : ((46080 : Int64) + (ushrL x (45 : Int32))).toInt = 46080 + x.toInt / 35184372088832 := by rw [own_ladd] <;> omega
  have g3 : (((46080 : Int64) + (ushrL x (45 : Int32))) + u).toInt = 46080 + x.toInt / 35184372088832 + u.toInt := by rw [own_ladd] <;> omega
  have g4 := c_l2i (((46080 : Int64) + (ushrL x (45 : Int32))) + u)
  have g5 := own_r32 (((46080 : Int64) + (ushrL x (45 : Int32))) + u).toInt32
  have g6 := c_i2c (((46080 : Int64) + (ushrL x (45 : Int32))) + u).toInt32
  have g7 := c_i2c ((((46080 : Int64) + (ushrL x (45 : Int32))) + u).toInt32.toUInt32.toUInt16.toUInt32.toInt32)
  refine WP.l2i d1_50 (pc' := 51) rfl ?_
  refine WP.i2c d1_51 (pc' := 52) rfl ?_
  exact WP.retN d1_52 (t := .char) rfl (by simp) (by decide) (by decide) ⟨rfl, _, rfl, Or.inr ⟨by omega, by have e9 : (nar .char ((((46080 : Int64) + (ushrL x (45 : Int32))) + u).toInt32.toUInt32.toUInt16.toUInt32.toInt32)).toInt = 46080 + x.toInt / 35184372088832 + u.toInt := (show ((((46080 : Int64) + (ushrL x (45 : Int32))) + u).toInt32.toUInt32.toUInt16.toUInt32.toInt32.toUInt32.toUInt16.toUInt32.toInt32).toInt = _ by omega); rw [e9]; exact vk_45 x.toInt (x.toInt / 35184372088832) (x.toInt % 35184372088832) u.toInt _ (by omega) (by omega) f4 (by omega) rfl⟩⟩
theorem run_27_46 {l : Launch} {Z : State} {a0 : Array Value} (hw : HW Z a0) {n0 : Nat} {h : Heap} (x : Int64) (hx0 : 0 ≤ x.toInt) (h1 : 72057594037927936 ≤ x.toInt) (h2 : x.toInt < 144115188075855872) : WP l B1 Z n0 (fun v h' => h = h' ∧ ∃ r : Int32, v = some (.int r) ∧ ((4611686018427387904 ≤ x.toInt ∧ r.toInt = 65535) ∨ (x.toInt < 4611686018427387904 ∧ r.toInt ≤ 54272 ∧ 0 ≤ r.toInt ∧ x.toInt ≤ valF r.toInt ∧ (r.toInt = 0 ∨ valF (r.toInt - 1) < x.toInt)))) h 0 0 27 #[.val (.long x), .second, .val (.int (46 : Int32)), .unset, .unset] [] := by
  have k32_10 : (10 : Int32).toInt = 10 := by decide
  have k32_46 : (46 : Int32).toInt = 46 := by decide
  have k32_63 : (63 : Int32).toInt = 63 := by decide
  have k32_47104 : (47104 : Int32).toInt = 47104 := by decide
  have k64_1 : (1 : Int64).toInt = 1 := by decide
  have k64_47104 : (47104 : Int64).toInt = 47104 := by decide
  have k64_70368744177663 : (70368744177663 : Int64).toInt = 70368744177663 := by decide
  have k64_70368744177664 : (70368744177664 : Int64).toInt = 70368744177664 := by decide
  refine WP.lloadN d1_27 rfl (pc' := 28) rfl ?_
  refine WP.lconst1 d1_28 (pc' := 29) rfl ?_
  refine WP.iloadN d1_29 rfl (pc' := 30) rfl ?_
  refine WP.lshl d1_30 (pc' := 31) rfl ?_
  rw [show ((1 : Int64) <<< ((46 : Int32) &&& 63).toInt64) = (70368744177664 : Int64) from by decide]
  refine WP.lconst1 d1_31 (pc' := 32) rfl ?_
  refine WP.lsub d1_32 (pc' := 33) rfl ?_
  rw [show (((70368744177664 : Int64) - (1 : Int64)) : Int64) = (70368744177663 : Int64) from by decide]
  refine WP.land d1_33 (pc' := 34) rfl ?_
  refine WP.lneg d1_34 (pc' := 35) rfl ?_
  refine WP.bipush d1_35 (z := (63 : Int32)) rfl (pc' := 37) rfl ?_
  refine WP.lushr d1_37 (pc' := 38) rfl ?_
  obtain ⟨u, e_u⟩ : ∃ z, z = (ushrL (-(x &&& (70368744177663 : Int64))) (63 : Int32)) := ⟨_, rfl⟩
  rw [← e_u]
  refine WP.lstoreN d1_38 (pc' := 39) rfl (ls' := #[.val (.long x), .second, .val (.int (46 : Int32)), .val (.long u), .second]) rfl ?_
  have f1 : (x &&& (70368744177663 : Int64)).toInt = x.toInt % 70368744177664 := own_maskL _ _ 46 _ (by decide) (by decide) (by decide)
  have f2 : (-(x &&& (70368744177663 : Int64))).toInt = -(x.toInt % 70368744177664) := by have g1 := c_lneg (x &&& (70368744177663 : Int64)); have g2 := own_r64 (-(x &&& (70368744177663 : Int64))); omega
  have f3 : u.toInt = ((-(x &&& (70368744177663 : Int64))).toInt % 18446744073709551616) / 9223372036854775808 := by rw [e_u]; exact c_lushr _ 63 63 (by decide) (by decide)
  have f4 : (x.toInt % 70368744177664 = 0 ∧ u.toInt = 0) ∨ (0 < x.toInt % 70368744177664 ∧ u.toInt = 1) := by omega
  clear f1 f2 f3
  refine WP.iloadN d1_39 rfl (pc' := 40) rfl ?_
  refine WP.bipush d1_40 (z := (10 : Int32)) rfl (pc' := 42) rfl ?_
  refine WP.ishl d1_42 (pc' := 43) rfl ?_
  rw [show ((46 : Int32) <<< ((10 : Int32) &&& 31)) = (47104 : Int32) from by decide]
  refine WP.i2l d1_43 (pc' := 44) rfl ?_
  rw [show (47104 : Int32).toInt64 = (47104 : Int64) from by decide]
  refine WP.lloadN d1_44 rfl (pc' := 45) rfl ?_
  refine WP.iloadN d1_45 rfl (pc' := 46) rfl ?_
  refine WP.lushr d1_46 (pc' := 47) rfl ?_
  refine WP.ladd d1_47 (pc' := 48) rfl ?_
  refine WP.lloadN d1_48 rfl (pc' := 49) rfl ?_
  refine WP.ladd d1_49 (pc' := 50) rfl ?_
  have g1 : (ushrL x (46 : Int32)).toInt = x.toInt / 70368744177664 := by have q : (ushrL x (46 : Int32)).toInt = (x.toInt % 18446744073709551616) / 70368744177664 := c_lushr x (46 : Int32) 46 (by decide) (by decide); omega
  have g2 : ((47104 : Int64) + (ushrL x (46 : Int32))).toInt = 47104 + x.toInt / 70368744177664 := by rw [own_ladd] <;> omega
  have g3 : (((47104 : Int64) + (ushrL x (46 : Int32))) + u).toInt = 47104 + x.toInt / 70368744177664 + u.toInt := by rw [own_ladd] <;> omega
  have g4 := c_l2i (((47104 : Int64) + (ushrL x (46 : Int32))) + u)
  have g5 := own_r32 (((47104 : Int64) + (ushrL x (46 : Int32))) + u).toInt32
  have g6 := c_i2c (((47104 : Int64) + (ushrL x (46 : Int32))) + u).toInt32
  have g7 := c_i2c ((((47104 : Int64) + (ushrL x (46 : Int32))) + u).toInt32.toUInt32.toUInt16.toUInt32.toInt32)
  refine WP.l2i d1_50 (pc' := 51) rfl ?_
  refine WP.i2c d1_51 (pc' := 52) rfl ?_
  exact WP.retN d1_52 (t := .char) rfl (by simp) (by decide) (by decide) ⟨rfl, _, rfl, Or.inr ⟨by omega, by have e9 : (nar .char ((((47104 : Int64) + (ushrL x (46 : Int32))) + u).toInt32.toUInt32.toUInt16.toUInt32.toInt32)).toInt = 47104 + x.toInt / 70368744177664 + u.toInt := (show ((((47104 : Int64) + (ushrL x (46 : Int32))) + u).toInt32.toUInt32.toUInt16.toUInt32.toInt32.toUInt32.toUInt16.toUInt32.toInt32).toInt = _ by omega); rw [e9]; exact vk_46 x.toInt (x.toInt / 70368744177664) (x.toInt % 70368744177664) u.toInt _ (by omega) (by omega) f4 (by omega) rfl⟩⟩
theorem run_27_47 {l : Launch} {Z : State} {a0 : Array Value} (hw : HW Z a0) {n0 : Nat} {h : Heap} (x : Int64) (hx0 : 0 ≤ x.toInt) (h1 : 144115188075855872 ≤ x.toInt) (h2 : x.toInt < 288230376151711744) : WP l B1 Z n0 (fun v h' => h = h' ∧ ∃ r : Int32, v = some (.int r) ∧ ((4611686018427387904 ≤ x.toInt ∧ r.toInt = 65535) ∨ (x.toInt < 4611686018427387904 ∧ r.toInt ≤ 54272 ∧ 0 ≤ r.toInt ∧ x.toInt ≤ valF r.toInt ∧ (r.toInt = 0 ∨ valF (r.toInt - 1) < x.toInt)))) h 0 0 27 #[.val (.long x), .second, .val (.int (47 : Int32)), .unset, .unset] [] := by
  have k32_10 : (10 : Int32).toInt = 10 := by decide
  have k32_47 : (47 : Int32).toInt = 47 := by decide
  have k32_63 : (63 : Int32).toInt = 63 := by decide
  have k32_48128 : (48128 : Int32).toInt = 48128 := by decide
  have k64_1 : (1 : Int64).toInt = 1 := by decide
  have k64_48128 : (48128 : Int64).toInt = 48128 := by decide
  have k64_140737488355327 : (140737488355327 : Int64).toInt = 140737488355327 := by decide
  have k64_140737488355328 : (140737488355328 : Int64).toInt = 140737488355328 := by decide
  refine WP.lloadN d1_27 rfl (pc' := 28) rfl ?_
  refine WP.lconst1 d1_28 (pc' := 29) rfl ?_
  refine WP.iloadN d1_29 rfl (pc' := 30) rfl ?_
  refine WP.lshl d1_30 (pc' := 31) rfl ?_
  rw [show ((1 : Int64) <<< ((47 : Int32) &&& 63).toInt64) = (140737488355328 : Int64) from by decide]
  refine WP.lconst1 d1_31 (pc' := 32) rfl ?_
  refine WP.lsub d1_32 (pc' := 33) rfl ?_
  rw [show (((140737488355328 : Int64) - (1 : Int64)) : Int64) = (140737488355327 : Int64) from by decide]
  refine WP.land d1_33 (pc' := 34) rfl ?_
  refine WP.lneg d1_34 (pc' := 35) rfl ?_
  refine WP.bipush d1_35 (z := (63 : Int32)) rfl (pc' := 37) rfl ?_
  refine WP.lushr d1_37 (pc' := 38) rfl ?_
  obtain ⟨u, e_u⟩ : ∃ z, z = (ushrL (-(x &&& (140737488355327 : Int64))) (63 : Int32)) := ⟨_, rfl⟩
  rw [← e_u]
  refine WP.lstoreN d1_38 (pc' := 39) rfl (ls' := #[.val (.long x), .second, .val (.int (47 : Int32)), .val (.long u), .second]) rfl ?_
  have f1 : (x &&& (140737488355327 : Int64)).toInt = x.toInt % 140737488355328 := own_maskL _ _ 47 _ (by decide) (by decide) (by decide)
  have f2 : (-(x &&& (140737488355327 : Int64))).toInt = -(x.toInt % 140737488355328) := by have g1 := c_lneg (x &&& (140737488355327 : Int64)); have g2 := own_r64 (-(x &&& (140737488355327 : Int64))); omega
  have f3 : u.toInt = ((-(x &&& (140737488355327 : Int64))).toInt % 18446744073709551616) / 9223372036854775808 := by rw [e_u]; exact c_lushr _ 63 63 (by decide) (by decide)
  have f4 : (x.toInt % 140737488355328 = 0 ∧ u.toInt = 0) ∨ (0 < x.toInt % 140737488355328 ∧ u.toInt = 1) := by omega
  clear f1 f2 f3
  refine WP.iloadN d1_39 rfl (pc' := 40) rfl ?_
  refine WP.bipush d1_40 (z := (10 : Int32)) rfl (pc' := 42) rfl ?_
  refine WP.ishl d1_42 (pc' := 43) rfl ?_
  rw [show ((47 : Int32) <<< ((10 : Int32) &&& 31)) = (48128 : Int32) from by decide]
  refine WP.i2l d1_43 (pc' := 44) rfl ?_
  rw [show (48128 : Int32).toInt64 = (48128 : Int64) from by decide]
  refine WP.lloadN d1_44 rfl (pc' := 45) rfl ?_
  refine WP.iloadN d1_45 rfl (pc' := 46) rfl ?_
  refine WP.lushr d1_46 (pc' := 47) rfl ?_
  refine WP.ladd d1_47 (pc' := 48) rfl ?_
  refine WP.lloadN d1_48 rfl (pc' := 49) rfl ?_
  refine WP.ladd d1_49 (pc' := 50) rfl ?_
  have g1 : (ushrL x (47 : Int32)).toInt = x.toInt / 140737488355328 := by have q : (ushrL x (47 : Int32)).toInt = (x.toInt % 18446744073709551616) / 140737488355328 := c_lushr x (47 : Int32) 47 (by decide) (by decide); omega
  have g2 : ((48128 : Int64) + (ushrL x (47 : Int32))).toInt = 48128 + x.toInt / 140737488355328 := by rw [own_ladd] <;> omega
  have g3 : (((48128 : Int64) + (ushrL x (47 : Int32))) + u).toInt = 48128 + x.toInt / 140737488355328 + u.toInt := by rw [own_ladd] <;> omega
  have g4 := c_l2i (((48128 : Int64) + (ushrL x (47 : Int32))) + u)
  have g5 := own_r32 (((48128 : Int64) + (ushrL x (47 : Int32))) + u).toInt32
  have g6 := c_i2c (((48128 : Int64) + (ushrL x (47 : Int32))) + u).toInt32
  have g7 := c_i2c ((((48128 : Int64) + (ushrL x (47 : Int32))) + u).toInt32.toUInt32.toUInt16.toUInt32.toInt32)
  refine WP.l2i d1_50 (pc' := 51) rfl ?_
  refine WP.i2c d1_51 (pc' := 52) rfl ?_
  exact WP.retN d1_52 (t := .char) rfl (by simp) (by decide) (by decide) ⟨rfl, _, rfl, Or.inr ⟨by omega, by have e9 : (nar .char ((((48128 : Int64) + (ushrL x (47 : Int32))) + u).toInt32.toUInt32.toUInt16.toUInt32.toInt32)).toInt = 48128 + x.toInt / 140737488355328 + u.toInt := (show ((((48128 : Int64) + (ushrL x (47 : Int32))) + u).toInt32.toUInt32.toUInt16.toUInt32.toInt32.toUInt32.toUInt16.toUInt32.toInt32).toInt = _ by omega); rw [e9]; exact vk_47 x.toInt (x.toInt / 140737488355328) (x.toInt % 140737488355328) u.toInt _ (by omega) (by omega) f4 (by omega) rfl⟩⟩
theorem run_27_48 {l : Launch} {Z : State} {a0 : Array Value} (hw : HW Z a0) {n0 : Nat} {h : Heap} (x : Int64) (hx0 : 0 ≤ x.toInt) (h1 : 288230376151711744 ≤ x.toInt) (h2 : x.toInt < 576460752303423488) : WP l B1 Z n0 (fun v h' => h = h' ∧ ∃ r : Int32, v = some (.int r) ∧ ((4611686018427387904 ≤ x.toInt ∧ r.toInt = 65535) ∨ (x.toInt < 4611686018427387904 ∧ r.toInt ≤ 54272 ∧ 0 ≤ r.toInt ∧ x.toInt ≤ valF r.toInt ∧ (r.toInt = 0 ∨ valF (r.toInt - 1) < x.toInt)))) h 0 0 27 #[.val (.long x), .second, .val (.int (48 : Int32)), .unset, .unset] [] := by
  have k32_10 : (10 : Int32).toInt = 10 := by decide
  have k32_48 : (48 : Int32).toInt = 48 := by decide
  have k32_63 : (63 : Int32).toInt = 63 := by decide
  have k32_49152 : (49152 : Int32).toInt = 49152 := by decide
  have k64_1 : (1 : Int64).toInt = 1 := by decide
  have k64_49152 : (49152 : Int64).toInt = 49152 := by decide
  have k64_281474976710655 : (281474976710655 : Int64).toInt = 281474976710655 := by decide
  have k64_281474976710656 : (281474976710656 : Int64).toInt = 281474976710656 := by decide
  refine WP.lloadN d1_27 rfl (pc' := 28) rfl ?_
  refine WP.lconst1 d1_28 (pc' := 29) rfl ?_
  refine WP.iloadN d1_29 rfl (pc' := 30) rfl ?_
  refine WP.lshl d1_30 (pc' := 31) rfl ?_
  rw [show ((1 : Int64) <<< ((48 : Int32) &&& 63).toInt64) = (281474976710656 : Int64) from by decide]
  refine WP.lconst1 d1_31 (pc' := 32) rfl ?_
  refine WP.lsub d1_32 (pc' := 33) rfl ?_
  rw [show (((281474976710656 : Int64) - (1 : Int64)) : Int64) = (281474976710655 : Int64) from by decide]
  refine WP.land d1_33 (pc' := 34) rfl ?_
  refine WP.lneg d1_34 (pc' := 35) rfl ?_
  refine WP.bipush d1_35 (z := (63 : Int32)) rfl (pc' := 37) rfl ?_
  refine WP.lushr d1_37 (pc' := 38) rfl ?_
  obtain ⟨u, e_u⟩ : ∃ z, z = (ushrL (-(x &&& (281474976710655 : Int64))) (63 : Int32)) := ⟨_, rfl⟩
  rw [← e_u]
  refine WP.lstoreN d1_38 (pc' := 39) rfl (ls' := #[.val (.long x), .second, .val (.int (48 : Int32)), .val (.long u), .second]) rfl ?_
  have f1 : (x &&& (281474976710655 : Int64)).toInt = x.toInt % 281474976710656 := own_maskL _ _ 48 _ (by decide) (by decide) (by decide)
  have f2 : (-(x &&& (281474976710655 : Int64))).toInt = -(x.toInt % 281474976710656) := by have g1 := c_lneg (x &&& (281474976710655 : Int64)); have g2 := own_r64 (-(x &&& (281474976710655 : Int64))); omega
  have f3 : u.toInt = ((-(x &&& (281474976710655 : Int64))).toInt % 18446744073709551616) / 9223372036854775808 := by rw [e_u]; exact c_lushr _ 63 63 (by decide) (by decide)
  have f4 : (x.toInt % 281474976710656 = 0 ∧ u.toInt = 0) ∨ (0 < x.toInt % 281474976710656 ∧ u.toInt = 1) := by omega
  clear f1 f2 f3
  refine WP.iloadN d1_39 rfl (pc' := 40) rfl ?_
  refine WP.bipush d1_40 (z := (10 : Int32)) rfl (pc' := 42) rfl ?_
  refine WP.ishl d1_42 (pc' := 43) rfl ?_
  rw [show ((48 : Int32) <<< ((10 : Int32) &&& 31)) = (49152 : Int32) from by decide]
  refine WP.i2l d1_43 (pc' := 44) rfl ?_
  rw [show (49152 : Int32).toInt64 = (49152 : Int64) from by decide]
  refine WP.lloadN d1_44 rfl (pc' := 45) rfl ?_
  refine WP.iloadN d1_45 rfl (pc' := 46) rfl ?_
  refine WP.lushr d1_46 (pc' := 47) rfl ?_
  refine WP.ladd d1_47 (pc' := 48) rfl ?_
  refine WP.lloadN d1_48 rfl (pc' := 49) rfl ?_
  refine WP.ladd d1_49 (pc' := 50) rfl ?_
  have g1 : (ushrL x (48 : Int32)).toInt = x.toInt / 281474976710656 := by have q : (ushrL x (48 : Int32)).toInt = (x.toInt % 18446744073709551616) / 281474976710656 := c_lushr x (48 : Int32) 48 (by decide) (by decide); omega
  have g2 : ((49152 : Int64) + (ushrL x (48 : Int32))).toInt = 49152 + x.toInt / 281474976710656 := by rw [own_ladd] <;> omega
  have g3 : (((49152 : Int64) + (ushrL x (48 : Int32))) + u).toInt = 49152 + x.toInt / 281474976710656 + u.toInt := by rw [own_ladd] <;> omega
  have g4 := c_l2i (((49152 : Int64) + (ushrL x (48 : Int32))) + u)
  have g5 := own_r32 (((49152 : Int64) + (ushrL x (48 : Int32))) + u).toInt32
  have g6 := c_i2c (((49152 : Int64) + (ushrL x (48 : Int32))) + u).toInt32
  have g7 := c_i2c ((((49152 : Int64) + (ushrL x (48 : Int32))) + u).toInt32.toUInt32.toUInt16.toUInt32.toInt32)
  refine WP.l2i d1_50 (pc' := 51) rfl ?_
  refine WP.i2c d1_51 (pc' := 52) rfl ?_
  exact WP.retN d1_52 (t := .char) rfl (by simp) (by decide) (by decide) ⟨rfl, _, rfl, Or.inr ⟨by omega, by have e9 : (nar .char ((((49152 : Int64) + (ushrL x (48 : Int32))) + u).toInt32.toUInt32.toUInt16.toUInt32.toInt32)).toInt = 49152 + x.toInt / 281474976710656 + u.toInt := (show ((((49152 : Int64) + (ushrL x (48 : Int32))) + u).toInt32.toUInt32.toUInt16.toUInt32.toInt32.toUInt32.toUInt16.toUInt32.toInt32).toInt = _ by omega); rw [e9]; exact vk_48 x.toInt (x.toInt / 281474976710656) (x.toInt % 281474976710656) u.toInt _ (by omega) (by omega) f4 (by omega) rfl⟩⟩
theorem run_27_49 {l : Launch} {Z : State} {a0 : Array Value} (hw : HW Z a0) {n0 : Nat} {h : Heap} (x : Int64) (hx0 : 0 ≤ x.toInt) (h1 : 576460752303423488 ≤ x.toInt) (h2 : x.toInt < 1152921504606846976) : WP l B1 Z n0 (fun v h' => h = h' ∧ ∃ r : Int32, v = some (.int r) ∧ ((4611686018427387904 ≤ x.toInt ∧ r.toInt = 65535) ∨ (x.toInt < 4611686018427387904 ∧ r.toInt ≤ 54272 ∧ 0 ≤ r.toInt ∧ x.toInt ≤ valF r.toInt ∧ (r.toInt = 0 ∨ valF (r.toInt - 1) < x.toInt)))) h 0 0 27 #[.val (.long x), .second, .val (.int (49 : Int32)), .unset, .unset] [] := by
  have k32_10 : (10 : Int32).toInt = 10 := by decide
  have k32_49 : (49 : Int32).toInt = 49 := by decide
  have k32_63 : (63 : Int32).toInt = 63 := by decide
  have k32_50176 : (50176 : Int32).toInt = 50176 := by decide
  have k64_1 : (1 : Int64).toInt = 1 := by decide
  have k64_50176 : (50176 : Int64).toInt = 50176 := by decide
  have k64_562949953421311 : (562949953421311 : Int64).toInt = 562949953421311 := by decide
  have k64_562949953421312 : (562949953421312 : Int64).toInt = 562949953421312 := by decide
  refine WP.lloadN d1_27 rfl (pc' := 28) rfl ?_
  refine WP.lconst1 d1_28 (pc' := 29) rfl ?_
  refine WP.iloadN d1_29 rfl (pc' := 30) rfl ?_
  refine WP.lshl d1_30 (pc' := 31) rfl ?_
  rw [show ((1 : Int64) <<< ((49 : Int32) &&& 63).toInt64) = (562949953421312 : Int64) from by decide]
  refine WP.lconst1 d1_31 (pc' := 32) rfl ?_
  refine WP.lsub d1_32 (pc' := 33) rfl ?_
  rw [show (((562949953421312 : Int64) - (1 : Int64)) : Int64) = (562949953421311 : Int64) from by decide]
  refine WP.land d1_33 (pc' := 34) rfl ?_
  refine WP.lneg d1_34 (pc' := 35) rfl ?_
  refine WP.bipush d1_35 (z := (63 : Int32)) rfl (pc' := 37) rfl ?_
  refine WP.lushr d1_37 (pc' := 38) rfl ?_
  obtain ⟨u, e_u⟩ : ∃ z, z = (ushrL (-(x &&& (562949953421311 : Int64))) (63 : Int32)) := ⟨_, rfl⟩
  rw [← e_u]
  refine WP.lstoreN d1_38 (pc' := 39) rfl (ls' := #[.val (.long x), .second, .val (.int (49 : Int32)), .val (.long u), .second]) rfl ?_
  have f1 : (x &&& (562949953421311 : Int64)).toInt = x.toInt % 562949953421312 := own_maskL _ _ 49 _ (by decide) (by decide) (by decide)
  have f2 : (-(x &&& (562949953421311 : Int64))).toInt = -(x.toInt % 562949953421312) := by have g1 := c_lneg (x &&& (562949953421311 : Int64)); have g2 := own_r64 (-(x &&& (562949953421311 : Int64))); omega
  have f3 : u.toInt = ((-(x &&& (562949953421311 : Int64))).toInt % 18446744073709551616) / 9223372036854775808 := by rw [e_u]; exact c_lushr _ 63 63 (by decide) (by decide)
  have f4 : (x.toInt % 562949953421312 = 0 ∧ u.toInt = 0) ∨ (0 < x.toInt % 562949953421312 ∧ u.toInt = 1) := by omega
  clear f1 f2 f3
  refine WP.iloadN d1_39 rfl (pc' := 40) rfl ?_
  refine WP.bipush d1_40 (z := (10 : Int32)) rfl (pc' := 42) rfl ?_
  refine WP.ishl d1_42 (pc' := 43) rfl ?_
  rw [show ((49 : Int32) <<< ((10 : Int32) &&& 31)) = (50176 : Int32) from by decide]
  refine WP.i2l d1_43 (pc' := 44) rfl ?_
  rw [show (50176 : Int32).toInt64 = (50176 : Int64) from by decide]
  refine WP.lloadN d1_44 rfl (pc' := 45) rfl ?_
  refine WP.iloadN d1_45 rfl (pc' := 46) rfl ?_
  refine WP.lushr d1_46 (pc' := 47) rfl ?_
  refine WP.ladd d1_47 (pc' := 48) rfl ?_
  refine WP.lloadN d1_48 rfl (pc' := 49) rfl ?_
  refine WP.ladd d1_49 (pc' := 50) rfl ?_
  have g1 : (ushrL x (49 : Int32)).toInt = x.toInt / 562949953421312 := by have q : (ushrL x (49 : Int32)).toInt = (x.toInt % 18446744073709551616) / 562949953421312 := c_lushr x (49 : Int32) 49 (by decide) (by decide); omega
  have g2 : ((50176 : Int64) + (ushrL x (49 : Int32))).toInt = 50176 + x.toInt / 562949953421312 := by rw [own_ladd] <;> omega
  have g3 : (((50176 : Int64) + (ushrL x (49 : Int32))) + u).toInt = 50176 + x.toInt / 562949953421312 + u.toInt := by rw [own_ladd] <;> omega
  have g4 := c_l2i (((50176 : Int64) + (ushrL x (49 : Int32))) + u)
  have g5 := own_r32 (((50176 : Int64) + (ushrL x (49 : Int32))) + u).toInt32
  have g6 := c_i2c (((50176 : Int64) + (ushrL x (49 : Int32))) + u).toInt32
  have g7 := c_i2c ((((50176 : Int64) + (ushrL x (49 : Int32))) + u).toInt32.toUInt32.toUInt16.toUInt32.toInt32)
  refine WP.l2i d1_50 (pc' := 51) rfl ?_
  refine WP.i2c d1_51 (pc' := 52) rfl ?_
  exact WP.retN d1_52 (t := .char) rfl (by simp) (by decide) (by decide) ⟨rfl, _, rfl, Or.inr ⟨by omega, by have e9 : (nar .char ((((50176 : Int64) + (ushrL x (49 : Int32))) + u).toInt32.toUInt32.toUInt16.toUInt32.toInt32)).toInt = 50176 + x.toInt / 562949953421312 + u.toInt := (show ((((50176 : Int64) + (ushrL x (49 : Int32))) + u).toInt32.toUInt32.toUInt16.toUInt32.toInt32.toUInt32.toUInt16.toUInt32.toInt32).toInt = _ by omega); rw [e9]; exact vk_49 x.toInt (x.toInt / 562949953421312) (x.toInt % 562949953421312) u.toInt _ (by omega) (by omega) f4 (by omega) rfl⟩⟩
theorem run_27_50 {l : Launch} {Z : State} {a0 : Array Value} (hw : HW Z a0) {n0 : Nat} {h : Heap} (x : Int64) (hx0 : 0 ≤ x.toInt) (h1 : 1152921504606846976 ≤ x.toInt) (h2 : x.toInt < 2305843009213693952) : WP l B1 Z n0 (fun v h' => h = h' ∧ ∃ r : Int32, v = some (.int r) ∧ ((4611686018427387904 ≤ x.toInt ∧ r.toInt = 65535) ∨ (x.toInt < 4611686018427387904 ∧ r.toInt ≤ 54272 ∧ 0 ≤ r.toInt ∧ x.toInt ≤ valF r.toInt ∧ (r.toInt = 0 ∨ valF (r.toInt - 1) < x.toInt)))) h 0 0 27 #[.val (.long x), .second, .val (.int (50 : Int32)), .unset, .unset] [] := by
  have k32_10 : (10 : Int32).toInt = 10 := by decide
  have k32_50 : (50 : Int32).toInt = 50 := by decide
  have k32_63 : (63 : Int32).toInt = 63 := by decide
  have k32_51200 : (51200 : Int32).toInt = 51200 := by decide
  have k64_1 : (1 : Int64).toInt = 1 := by decide
  have k64_51200 : (51200 : Int64).toInt = 51200 := by decide
  have k64_1125899906842623 : (1125899906842623 : Int64).toInt = 1125899906842623 := by decide
  have k64_1125899906842624 : (1125899906842624 : Int64).toInt = 1125899906842624 := by decide
  refine WP.lloadN d1_27 rfl (pc' := 28) rfl ?_
  refine WP.lconst1 d1_28 (pc' := 29) rfl ?_
  refine WP.iloadN d1_29 rfl (pc' := 30) rfl ?_
  refine WP.lshl d1_30 (pc' := 31) rfl ?_
  rw [show ((1 : Int64) <<< ((50 : Int32) &&& 63).toInt64) = (1125899906842624 : Int64) from by decide]
  refine WP.lconst1 d1_31 (pc' := 32) rfl ?_
  refine WP.lsub d1_32 (pc' := 33) rfl ?_
  rw [show (((1125899906842624 : Int64) - (1 : Int64)) : Int64) = (1125899906842623 : Int64) from by decide]
  refine WP.land d1_33 (pc' := 34) rfl ?_
  refine WP.lneg d1_34 (pc' := 35) rfl ?_
  refine WP.bipush d1_35 (z := (63 : Int32)) rfl (pc' := 37) rfl ?_
  refine WP.lushr d1_37 (pc' := 38) rfl ?_
  obtain ⟨u, e_u⟩ : ∃ z, z = (ushrL (-(x &&& (1125899906842623 : Int64))) (63 : Int32)) := ⟨_, rfl⟩
  rw [← e_u]
  refine WP.lstoreN d1_38 (pc' := 39) rfl (ls' := #[.val (.long x), .second, .val (.int (50 : Int32)), .val (.long u), .second]) rfl ?_
  have f1 : (x &&& (1125899906842623 : Int64)).toInt = x.toInt % 1125899906842624 := own_maskL _ _ 50 _ (by decide) (by decide) (by decide)
  have f2 : (-(x &&& (1125899906842623 : Int64))).toInt = -(x.toInt % 1125899906842624) := by have g1 := c_lneg (x &&& (1125899906842623 : Int64)); have g2 := own_r64 (-(x &&& (1125899906842623 : Int64))); omega
  have f3 : u.toInt = ((-(x &&& (1125899906842623 : Int64))).toInt % 18446744073709551616) / 9223372036854775808 := by rw [e_u]; exact c_lushr _ 63 63 (by decide) (by decide)
  have f4 : (x.toInt % 1125899906842624 = 0 ∧ u.toInt = 0) ∨ (0 < x.toInt % 1125899906842624 ∧ u.toInt = 1) := by omega
  clear f1 f2 f3
  refine WP.iloadN d1_39 rfl (pc' := 40) rfl ?_
  refine WP.bipush d1_40 (z := (10 : Int32)) rfl (pc' := 42) rfl ?_
  refine WP.ishl d1_42 (pc' := 43) rfl ?_
  rw [show ((50 : Int32) <<< ((10 : Int32) &&& 31)) = (51200 : Int32) from by decide]
  refine WP.i2l d1_43 (pc' := 44) rfl ?_
  rw [show (51200 : Int32).toInt64 = (51200 : Int64) from by decide]
  refine WP.lloadN d1_44 rfl (pc' := 45) rfl ?_
  refine WP.iloadN d1_45 rfl (pc' := 46) rfl ?_
  refine WP.lushr d1_46 (pc' := 47) rfl ?_
  refine WP.ladd d1_47 (pc' := 48) rfl ?_
  refine WP.lloadN d1_48 rfl (pc' := 49) rfl ?_
  refine WP.ladd d1_49 (pc' := 50) rfl ?_
  have g1 : (ushrL x (50 : Int32)).toInt = x.toInt / 1125899906842624 := by have q : (ushrL x (50 : Int32)).toInt = (x.toInt % 18446744073709551616) / 1125899906842624 := c_lushr x (50 : Int32) 50 (by decide) (by decide); omega
  have g2 : ((51200 : Int64) + (ushrL x (50 : Int32))).toInt = 51200 + x.toInt / 1125899906842624 := by rw [own_ladd] <;> omega
  have g3 : (((51200 : Int64) + (ushrL x (50 : Int32))) + u).toInt = 51200 + x.toInt / 1125899906842624 + u.toInt := by rw [own_ladd] <;> omega
  have g4 := c_l2i (((51200 : Int64) + (ushrL x (50 : Int32))) + u)
  have g5 := own_r32 (((51200 : Int64) + (ushrL x (50 : Int32))) + u).toInt32
  have g6 := c_i2c (((51200 : Int64) + (ushrL x (50 : Int32))) + u).toInt32
  have g7 := c_i2c ((((51200 : Int64) + (ushrL x (50 : Int32))) + u).toInt32.toUInt32.toUInt16.toUInt32.toInt32)
  refine WP.l2i d1_50 (pc' := 51) rfl ?_
  refine WP.i2c d1_51 (pc' := 52) rfl ?_
  exact WP.retN d1_52 (t := .char) rfl (by simp) (by decide) (by decide) ⟨rfl, _, rfl, Or.inr ⟨by omega, by have e9 : (nar .char ((((51200 : Int64) + (ushrL x (50 : Int32))) + u).toInt32.toUInt32.toUInt16.toUInt32.toInt32)).toInt = 51200 + x.toInt / 1125899906842624 + u.toInt := (show ((((51200 : Int64) + (ushrL x (50 : Int32))) + u).toInt32.toUInt32.toUInt16.toUInt32.toInt32.toUInt32.toUInt16.toUInt32.toInt32).toInt = _ by omega); rw [e9]; exact vk_50 x.toInt (x.toInt / 1125899906842624) (x.toInt % 1125899906842624) u.toInt _ (by omega) (by omega) f4 (by omega) rfl⟩⟩
theorem run_27_51 {l : Launch} {Z : State} {a0 : Array Value} (hw : HW Z a0) {n0 : Nat} {h : Heap} (x : Int64) (hx0 : 0 ≤ x.toInt) (h1 : 2305843009213693952 ≤ x.toInt) (h2 : x.toInt < 4611686018427387904) : WP l B1 Z n0 (fun v h' => h = h' ∧ ∃ r : Int32, v = some (.int r) ∧ ((4611686018427387904 ≤ x.toInt ∧ r.toInt = 65535) ∨ (x.toInt < 4611686018427387904 ∧ r.toInt ≤ 54272 ∧ 0 ≤ r.toInt ∧ x.toInt ≤ valF r.toInt ∧ (r.toInt = 0 ∨ valF (r.toInt - 1) < x.toInt)))) h 0 0 27 #[.val (.long x), .second, .val (.int (51 : Int32)), .unset, .unset] [] := by
  have k32_10 : (10 : Int32).toInt = 10 := by decide
  have k32_51 : (51 : Int32).toInt = 51 := by decide
  have k32_63 : (63 : Int32).toInt = 63 := by decide
  have k32_52224 : (52224 : Int32).toInt = 52224 := by decide
  have k64_1 : (1 : Int64).toInt = 1 := by decide
  have k64_52224 : (52224 : Int64).toInt = 52224 := by decide
  have k64_2251799813685247 : (2251799813685247 : Int64).toInt = 2251799813685247 := by decide
  have k64_2251799813685248 : (2251799813685248 : Int64).toInt = 2251799813685248 := by decide
  refine WP.lloadN d1_27 rfl (pc' := 28) rfl ?_
  refine WP.lconst1 d1_28 (pc' := 29) rfl ?_
  refine WP.iloadN d1_29 rfl (pc' := 30) rfl ?_
  refine WP.lshl d1_30 (pc' := 31) rfl ?_
  rw [show ((1 : Int64) <<< ((51 : Int32) &&& 63).toInt64) = (2251799813685248 : Int64) from by decide]
  refine WP.lconst1 d1_31 (pc' := 32) rfl ?_
  refine WP.lsub d1_32 (pc' := 33) rfl ?_
  rw [show (((2251799813685248 : Int64) - (1 : Int64)) : Int64) = (2251799813685247 : Int64) from by decide]
  refine WP.land d1_33 (pc' := 34) rfl ?_
  refine WP.lneg d1_34 (pc' := 35) rfl ?_
  refine WP.bipush d1_35 (z := (63 : Int32)) rfl (pc' := 37) rfl ?_
  refine WP.lushr d1_37 (pc' := 38) rfl ?_
  obtain ⟨u, e_u⟩ : ∃ z, z = (ushrL (-(x &&& (2251799813685247 : Int64))) (63 : Int32)) := ⟨_, rfl⟩
  rw [← e_u]
  refine WP.lstoreN d1_38 (pc' := 39) rfl (ls' := #[.val (.long x), .second, .val (.int (51 : Int32)), .val (.long u), .second]) rfl ?_
  have f1 : (x &&& (2251799813685247 : Int64)).toInt = x.toInt % 2251799813685248 := own_maskL _ _ 51 _ (by decide) (by decide) (by decide)
  have f2 : (-(x &&& (2251799813685247 : Int64))).toInt = -(x.toInt % 2251799813685248) := by have g1 := c_lneg (x &&& (2251799813685247 : Int64)); have g2 := own_r64 (-(x &&& (2251799813685247 : Int64))); omega
  have f3 : u.toInt = ((-(x &&& (2251799813685247 : Int64))).toInt % 18446744073709551616) / 9223372036854775808 := by rw [e_u]; exact c_lushr _ 63 63 (by decide) (by decide)
  have f4 : (x.toInt % 2251799813685248 = 0 ∧ u.toInt = 0) ∨ (0 < x.toInt % 2251799813685248 ∧ u.toInt = 1) := by omega
  clear f1 f2 f3
  refine WP.iloadN d1_39 rfl (pc' := 40) rfl ?_
  refine WP.bipush d1_40 (z := (10 : Int32)) rfl (pc' := 42) rfl ?_
  refine WP.ishl d1_42 (pc' := 43) rfl ?_
  rw [show ((51 : Int32) <<< ((10 : Int32) &&& 31)) = (52224 : Int32) from by decide]
  refine WP.i2l d1_43 (pc' := 44) rfl ?_
  rw [show (52224 : Int32).toInt64 = (52224 : Int64) from by decide]
  refine WP.lloadN d1_44 rfl (pc' := 45) rfl ?_
  refine WP.iloadN d1_45 rfl (pc' := 46) rfl ?_
  refine WP.lushr d1_46 (pc' := 47) rfl ?_
  refine WP.ladd d1_47 (pc' := 48) rfl ?_
  refine WP.lloadN d1_48 rfl (pc' := 49) rfl ?_
  refine WP.ladd d1_49 (pc' := 50) rfl ?_
  have g1 : (ushrL x (51 : Int32)).toInt = x.toInt / 2251799813685248 := by have q : (ushrL x (51 : Int32)).toInt = (x.toInt % 18446744073709551616) / 2251799813685248 := c_lushr x (51 : Int32) 51 (by decide) (by decide); omega
  have g2 : ((52224 : Int64) + (ushrL x (51 : Int32))).toInt = 52224 + x.toInt / 2251799813685248 := by rw [own_ladd] <;> omega
  have g3 : (((52224 : Int64) + (ushrL x (51 : Int32))) + u).toInt = 52224 + x.toInt / 2251799813685248 + u.toInt := by rw [own_ladd] <;> omega
  have g4 := c_l2i (((52224 : Int64) + (ushrL x (51 : Int32))) + u)
  have g5 := own_r32 (((52224 : Int64) + (ushrL x (51 : Int32))) + u).toInt32
  have g6 := c_i2c (((52224 : Int64) + (ushrL x (51 : Int32))) + u).toInt32
  have g7 := c_i2c ((((52224 : Int64) + (ushrL x (51 : Int32))) + u).toInt32.toUInt32.toUInt16.toUInt32.toInt32)
  refine WP.l2i d1_50 (pc' := 51) rfl ?_
  refine WP.i2c d1_51 (pc' := 52) rfl ?_
  exact WP.retN d1_52 (t := .char) rfl (by simp) (by decide) (by decide) ⟨rfl, _, rfl, Or.inr ⟨by omega, by have e9 : (nar .char ((((52224 : Int64) + (ushrL x (51 : Int32))) + u).toInt32.toUInt32.toUInt16.toUInt32.toInt32)).toInt = 52224 + x.toInt / 2251799813685248 + u.toInt := (show ((((52224 : Int64) + (ushrL x (51 : Int32))) + u).toInt32.toUInt32.toUInt16.toUInt32.toInt32.toUInt32.toUInt16.toUInt32.toInt32).toInt = _ by omega); rw [e9]; exact vk_51 x.toInt (x.toInt / 2251799813685248) (x.toInt % 2251799813685248) u.toInt _ (by omega) (by omega) f4 (by omega) rfl⟩⟩
theorem own_c65535 : (some (Value.int (nar .char (65535 : Int32)))) = some (Value.int 65535) := congrArg (fun z => some (Value.int z)) (by decide)
theorem run_met {l : Launch} {Z : State} {a0 : Array Value} (hw : HW Z a0) {n0 : Nat} {h : Heap} (x : Int64) (hx0 : 0 ≤ x.toInt) : OMet l (⟨"com/example/apportion/apportion/IdleTimeline", "runLength", "(J)C"⟩ : MethodName) B1 Z n0 #[(.long x)] h (fun v h' => h = h' ∧ ∃ r : Int32, v = some (.int r) ∧ ((4611686018427387904 ≤ x.toInt ∧ r.toInt = 65535) ∨ (x.toInt < 4611686018427387904 ∧ r.toInt ≤ 54272 ∧ 0 ≤ r.toInt ∧ x.toInt ≤ valF r.toInt ∧ (r.toInt = 0 ∨ valF (r.toInt - 1) < x.toInt)))) := by
  refine OMet.of_wp (ls0 := #[.val (.long x), .second, .unset, .unset, .unset]) pl1 rfl rfl (fun m => own_entry 3 rfl rfl) ?_
  have k32_0 : (0 : Int32).toInt = 0 := by decide
  have k32_1 : (1 : Int32).toInt = 1 := by decide
  have k32_2 : (2 : Int32).toInt = 2 := by decide
  have k32_3 : (3 : Int32).toInt = 3 := by decide
  have k32_4 : (4 : Int32).toInt = 4 := by decide
  have k32_5 : (5 : Int32).toInt = 5 := by decide
  have k32_6 : (6 : Int32).toInt = 6 := by decide
  have k32_7 : (7 : Int32).toInt = 7 := by decide
  have k32_8 : (8 : Int32).toInt = 8 := by decide
  have k32_9 : (9 : Int32).toInt = 9 := by decide
  have k32_10 : (10 : Int32).toInt = 10 := by decide
  have k32_11 : (11 : Int32).toInt = 11 := by decide
  have k32_12 : (12 : Int32).toInt = 12 := by decide
  have k32_13 : (13 : Int32).toInt = 13 := by decide
  have k32_14 : (14 : Int32).toInt = 14 := by decide
  have k32_15 : (15 : Int32).toInt = 15 := by decide
  have k32_16 : (16 : Int32).toInt = 16 := by decide
  have k32_17 : (17 : Int32).toInt = 17 := by decide
  have k32_18 : (18 : Int32).toInt = 18 := by decide
  have k32_19 : (19 : Int32).toInt = 19 := by decide
  have k32_20 : (20 : Int32).toInt = 20 := by decide
  have k32_21 : (21 : Int32).toInt = 21 := by decide
  have k32_22 : (22 : Int32).toInt = 22 := by decide
  have k32_23 : (23 : Int32).toInt = 23 := by decide
  have k32_24 : (24 : Int32).toInt = 24 := by decide
  have k32_25 : (25 : Int32).toInt = 25 := by decide
  have k32_26 : (26 : Int32).toInt = 26 := by decide
  have k32_27 : (27 : Int32).toInt = 27 := by decide
  have k32_28 : (28 : Int32).toInt = 28 := by decide
  have k32_29 : (29 : Int32).toInt = 29 := by decide
  have k32_30 : (30 : Int32).toInt = 30 := by decide
  have k32_31 : (31 : Int32).toInt = 31 := by decide
  have k32_32 : (32 : Int32).toInt = 32 := by decide
  have k32_33 : (33 : Int32).toInt = 33 := by decide
  have k32_34 : (34 : Int32).toInt = 34 := by decide
  have k32_35 : (35 : Int32).toInt = 35 := by decide
  have k32_36 : (36 : Int32).toInt = 36 := by decide
  have k32_37 : (37 : Int32).toInt = 37 := by decide
  have k32_38 : (38 : Int32).toInt = 38 := by decide
  have k32_39 : (39 : Int32).toInt = 39 := by decide
  have k32_40 : (40 : Int32).toInt = 40 := by decide
  have k32_41 : (41 : Int32).toInt = 41 := by decide
  have k32_42 : (42 : Int32).toInt = 42 := by decide
  have k32_43 : (43 : Int32).toInt = 43 := by decide
  have k32_44 : (44 : Int32).toInt = 44 := by decide
  have k32_45 : (45 : Int32).toInt = 45 := by decide
  have k32_46 : (46 : Int32).toInt = 46 := by decide
  have k32_47 : (47 : Int32).toInt = 47 := by decide
  have k32_48 : (48 : Int32).toInt = 48 := by decide
  have k32_49 : (49 : Int32).toInt = 49 := by decide
  have k32_50 : (50 : Int32).toInt = 50 := by decide
  have k32_51 : (51 : Int32).toInt = 51 := by decide
  have k32_64 : (64 : Int32).toInt = 64 := by decide
  have k32_65535 : (65535 : Int32).toInt = 65535 := by decide
  have k64_4611686018427387904 : (4611686018427387904 : Int64).toInt = 4611686018427387904 := by decide
  refine WP.lloadN d1_0 rfl (pc' := 1) rfl ?_
  refine WP.ldc2J d1_1 (w5 hw) (pc' := 4) rfl ?_
  refine WP.lcmpLt d1_4 rfl d1_5 (tgt := 12) (by decide) (pc' := 8) rfl (fun c4 => ?_) (fun c4 => ?_)
  ·
    refine WP.iconst d1_12 (z := (0 : Int32)) rfl (pc' := 13) rfl ?_
    refine WP.bipush d1_13 (z := (64 : Int32)) rfl (pc' := 15) rfl ?_
    refine WP.lloadN d1_15 rfl (pc' := 16) rfl ?_
    refine WP.callS (y := (⟨"java/lang/Long", "numberOfLeadingZeros", "(J)I"⟩ : MethodName)) (By := B2) (as := [(.long x)]) (rest := [(.int (64 : Int32)), (.int (0 : Int32))]) d1_16 (w6 hw) (w7 hw) (w8 hw) (w9 hw) (by decide) (nlJ_met hw x hx0) pd_1 rfl rfl rfl (by decide) (Nat.le_of_ble_eq_true rfl) (by decide) (by decide) (pc' := 19) rfl ?_
    rintro _ _ ⟨rfl, n, rfl, hn⟩
    have hn0 : 0 ≤ n.toInt ∧ n.toInt ≤ 64 := by rcases hn with q | ⟨b, q1, q2, -, -⟩ <;> omega
    show WP _ _ _ _ _ _ _ _ _ _ [(.int n), (.int (64 : Int32)), (.int (0 : Int32))]
    refine WP.isub d1_19 (pc' := 20) rfl ?_
    refine WP.bipush d1_20 (z := (11 : Int32)) rfl (pc' := 22) rfl ?_
    refine WP.isub d1_22 (pc' := 23) rfl ?_
    have f1 : ((64 : Int32) - n).toInt = 64 - n.toInt := by rw [own_isub] <;> omega
    have f2 : ((64 : Int32) - n - (11 : Int32)).toInt = 53 - n.toInt := by rw [own_isub] <;> omega
    refine WP.callS (y := (⟨"java/lang/Math", "max", "(II)I"⟩ : MethodName)) (By := B4) (as := [(.int (0 : Int32)), (.int (((64 : Int32) - n) - (11 : Int32)))]) (rest := []) d1_23 (w14 hw) (w15 hw) (w16 hw) (w17 hw) (by decide) (max_met hw (0 : Int32) (((64 : Int32) - n) - (11 : Int32))) pd_2 rfl rfl rfl (by decide) (Nat.le_of_ble_eq_true rfl) (by decide) (by decide) (pc' := 26) rfl ?_
    rintro _ _ ⟨rfl, s, rfl, hs⟩
    show WP _ _ _ _ _ _ _ _ _ _ [(.int s)]
    refine WP.istoreN d1_26 (pc' := 27) rfl (ls' := #[.val (.long x), .second, .val (.int s), .unset, .unset]) rfl ?_
    have hs2 : ∃ k : Nat, k ≤ 51 ∧ s.toInt = (k : Int) ∧ ((k = 0 ∧ x.toInt < 2048) ∨ (1 ≤ k ∧ (2 : Int) ^ (k + 10) ≤ x.toInt ∧ x.toInt < (2 : Int) ^ (k + 11))) := by
      rcases hn with q | ⟨b, q1, q2, q3, q4⟩
      · exact ⟨0, by decide, by omega, Or.inl ⟨rfl, by omega⟩⟩
      · by_cases hb10 : b ≤ 10
        · have : (2 : Int) ^ (b + 1) ≤ 2 ^ 11 := own_pow (by omega)
          exact ⟨0, by decide, by omega, Or.inl ⟨rfl, by omega⟩⟩
        · have hb61 : b ≤ 61 := by
            by_cases hb : b ≤ 61
            · exact hb
            · have : (2 : Int) ^ 62 ≤ 2 ^ b := own_pow (by omega)
              omega
          refine ⟨b - 10, by omega, by omega, Or.inr ⟨by omega, ?_, ?_⟩⟩
          · rw [show b - 10 + 10 = b by omega]; exact q3
          · rw [show b - 10 + 11 = b + 1 by omega]; exact q4
    obtain ⟨k, hk1, hk2, hk3⟩ := hs2
    clear hs hn f1 f2
    rcases (by omega : k = 0 ∨ k = 1 ∨ k = 2 ∨ k = 3 ∨ k = 4 ∨ k = 5 ∨ k = 6 ∨ k = 7 ∨ k = 8 ∨ k = 9 ∨ k = 10 ∨ k = 11 ∨ k = 12 ∨ k = 13 ∨ k = 14 ∨ k = 15 ∨ k = 16 ∨ k = 17 ∨ k = 18 ∨ k = 19 ∨ k = 20 ∨ k = 21 ∨ k = 22 ∨ k = 23 ∨ k = 24 ∨ k = 25 ∨ k = 26 ∨ k = 27 ∨ k = 28 ∨ k = 29 ∨ k = 30 ∨ k = 31 ∨ k = 32 ∨ k = 33 ∨ k = 34 ∨ k = 35 ∨ k = 36 ∨ k = 37 ∨ k = 38 ∨ k = 39 ∨ k = 40 ∨ k = 41 ∨ k = 42 ∨ k = 43 ∨ k = 44 ∨ k = 45 ∨ k = 46 ∨ k = 47 ∨ k = 48 ∨ k = 49 ∨ k = 50 ∨ k = 51) with rfl | rfl | rfl | rfl | rfl | rfl | rfl | rfl | rfl | rfl | rfl | rfl | rfl | rfl | rfl | rfl | rfl | rfl | rfl | rfl | rfl | rfl | rfl | rfl | rfl | rfl | rfl | rfl | rfl | rfl | rfl | rfl | rfl | rfl | rfl | rfl | rfl | rfl | rfl | rfl | rfl | rfl | rfl | rfl | rfl | rfl | rfl | rfl | rfl | rfl | rfl | rfl
    · rw [show s = (0 : Int32) from own_e32 (by rw [hk2]; decide)]; exact run_27_0 hw x hx0 (by omega) (by omega)
    · rw [show s = (1 : Int32) from own_e32 (by rw [hk2]; decide)]; exact run_27_1 hw x hx0 (by omega) (by omega)
    · rw [show s = (2 : Int32) from own_e32 (by rw [hk2]; decide)]; exact run_27_2 hw x hx0 (by omega) (by omega)
    · rw [show s = (3 : Int32) from own_e32 (by rw [hk2]; decide)]; exact run_27_3 hw x hx0 (by omega) (by omega)
    · rw [show s = (4 : Int32) from own_e32 (by rw [hk2]; decide)]; exact run_27_4 hw x hx0 (by omega) (by omega)
    · rw [show s = (5 : Int32) from own_e32 (by rw [hk2]; decide)]; exact run_27_5 hw x hx0 (by omega) (by omega)
    · rw [show s = (6 : Int32) from own_e32 (by rw [hk2]; decide)]; exact run_27_6 hw x hx0 (by omega) (by omega)
    · rw [show s = (7 : Int32) from own_e32 (by rw [hk2]; decide)]; exact run_27_7 hw x hx0 (by omega) (by omega)
    · rw [show s = (8 : Int32) from own_e32 (by rw [hk2]; decide)]; exact run_27_8 hw x hx0 (by omega) (by omega)
    · rw [show s = (9 : Int32) from own_e32 (by rw [hk2]; decide)]; exact run_27_9 hw x hx0 (by omega) (by omega)
    · rw [show s = (10 : Int32) from own_e32 (by rw [hk2]; decide)]; exact run_27_10 hw x hx0 (by omega) (by omega)
    · rw [show s = (11 : Int32) from own_e32 (by rw [hk2]; decide)]; exact run_27_11 hw x hx0 (by omega) (by omega)
    · rw [show s = (12 : Int32) from own_e32 (by rw [hk2]; decide)]; exact run_27_12 hw x hx0 (by omega) (by omega)
    · rw [show s = (13 : Int32) from own_e32 (by rw [hk2]; decide)]; exact run_27_13 hw x hx0 (by omega) (by omega)
    · rw [show s = (14 : Int32) from own_e32 (by rw [hk2]; decide)]; exact run_27_14 hw x hx0 (by omega) (by omega)
    · rw [show s = (15 : Int32) from own_e32 (by rw [hk2]; decide)]; exact run_27_15 hw x hx0 (by omega) (by omega)
    · rw [show s = (16 : Int32) from own_e32 (by rw [hk2]; decide)]; exact run_27_16 hw x hx0 (by omega) (by omega)
    · rw [show s = (17 : Int32) from own_e32 (by rw [hk2]; decide)]; exact run_27_17 hw x hx0 (by omega) (by omega)
    · rw [show s = (18 : Int32) from own_e32 (by rw [hk2]; decide)]; exact run_27_18 hw x hx0 (by omega) (by omega)
    · rw [show s = (19 : Int32) from own_e32 (by rw [hk2]; decide)]; exact run_27_19 hw x hx0 (by omega) (by omega)
    · rw [show s = (20 : Int32) from own_e32 (by rw [hk2]; decide)]; exact run_27_20 hw x hx0 (by omega) (by omega)
    · rw [show s = (21 : Int32) from own_e32 (by rw [hk2]; decide)]; exact run_27_21 hw x hx0 (by omega) (by omega)
    · rw [show s = (22 : Int32) from own_e32 (by rw [hk2]; decide)]; exact run_27_22 hw x hx0 (by omega) (by omega)
    · rw [show s = (23 : Int32) from own_e32 (by rw [hk2]; decide)]; exact run_27_23 hw x hx0 (by omega) (by omega)
    · rw [show s = (24 : Int32) from own_e32 (by rw [hk2]; decide)]; exact run_27_24 hw x hx0 (by omega) (by omega)
    · rw [show s = (25 : Int32) from own_e32 (by rw [hk2]; decide)]; exact run_27_25 hw x hx0 (by omega) (by omega)
    · rw [show s = (26 : Int32) from own_e32 (by rw [hk2]; decide)]; exact run_27_26 hw x hx0 (by omega) (by omega)
    · rw [show s = (27 : Int32) from own_e32 (by rw [hk2]; decide)]; exact run_27_27 hw x hx0 (by omega) (by omega)
    · rw [show s = (28 : Int32) from own_e32 (by rw [hk2]; decide)]; exact run_27_28 hw x hx0 (by omega) (by omega)
    · rw [show s = (29 : Int32) from own_e32 (by rw [hk2]; decide)]; exact run_27_29 hw x hx0 (by omega) (by omega)
    · rw [show s = (30 : Int32) from own_e32 (by rw [hk2]; decide)]; exact run_27_30 hw x hx0 (by omega) (by omega)
    · rw [show s = (31 : Int32) from own_e32 (by rw [hk2]; decide)]; exact run_27_31 hw x hx0 (by omega) (by omega)
    · rw [show s = (32 : Int32) from own_e32 (by rw [hk2]; decide)]; exact run_27_32 hw x hx0 (by omega) (by omega)
    · rw [show s = (33 : Int32) from own_e32 (by rw [hk2]; decide)]; exact run_27_33 hw x hx0 (by omega) (by omega)
    · rw [show s = (34 : Int32) from own_e32 (by rw [hk2]; decide)]; exact run_27_34 hw x hx0 (by omega) (by omega)
    · rw [show s = (35 : Int32) from own_e32 (by rw [hk2]; decide)]; exact run_27_35 hw x hx0 (by omega) (by omega)
    · rw [show s = (36 : Int32) from own_e32 (by rw [hk2]; decide)]; exact run_27_36 hw x hx0 (by omega) (by omega)
    · rw [show s = (37 : Int32) from own_e32 (by rw [hk2]; decide)]; exact run_27_37 hw x hx0 (by omega) (by omega)
    · rw [show s = (38 : Int32) from own_e32 (by rw [hk2]; decide)]; exact run_27_38 hw x hx0 (by omega) (by omega)
    · rw [show s = (39 : Int32) from own_e32 (by rw [hk2]; decide)]; exact run_27_39 hw x hx0 (by omega) (by omega)
    · rw [show s = (40 : Int32) from own_e32 (by rw [hk2]; decide)]; exact run_27_40 hw x hx0 (by omega) (by omega)
    · rw [show s = (41 : Int32) from own_e32 (by rw [hk2]; decide)]; exact run_27_41 hw x hx0 (by omega) (by omega)
    · rw [show s = (42 : Int32) from own_e32 (by rw [hk2]; decide)]; exact run_27_42 hw x hx0 (by omega) (by omega)
    · rw [show s = (43 : Int32) from own_e32 (by rw [hk2]; decide)]; exact run_27_43 hw x hx0 (by omega) (by omega)
    · rw [show s = (44 : Int32) from own_e32 (by rw [hk2]; decide)]; exact run_27_44 hw x hx0 (by omega) (by omega)
    · rw [show s = (45 : Int32) from own_e32 (by rw [hk2]; decide)]; exact run_27_45 hw x hx0 (by omega) (by omega)
    · rw [show s = (46 : Int32) from own_e32 (by rw [hk2]; decide)]; exact run_27_46 hw x hx0 (by omega) (by omega)
    · rw [show s = (47 : Int32) from own_e32 (by rw [hk2]; decide)]; exact run_27_47 hw x hx0 (by omega) (by omega)
    · rw [show s = (48 : Int32) from own_e32 (by rw [hk2]; decide)]; exact run_27_48 hw x hx0 (by omega) (by omega)
    · rw [show s = (49 : Int32) from own_e32 (by rw [hk2]; decide)]; exact run_27_49 hw x hx0 (by omega) (by omega)
    · rw [show s = (50 : Int32) from own_e32 (by rw [hk2]; decide)]; exact run_27_50 hw x hx0 (by omega) (by omega)
    · rw [show s = (51 : Int32) from own_e32 (by rw [hk2]; decide)]; exact run_27_51 hw x hx0 (by omega) (by omega)
  refine WP.ldcwI d1_8 (w25 hw) (pc' := 11) rfl ?_
  exact WP.retN d1_11 (t := .char) rfl (by simp) (by decide) (by decide) ⟨rfl, _, own_c65535, Or.inl ⟨by omega, by decide⟩⟩
theorem ushr_nn (y : Int64) (z : Int32) (h0 : 0 ≤ y.toInt) (hz : 0 ≤ z.toInt ∧ z.toInt ≤ 63) : 0 ≤ (ushrL y z).toInt := by
  rcases (by omega : z.toInt = 0 ∨ z.toInt = 1 ∨ z.toInt = 2 ∨ z.toInt = 3 ∨ z.toInt = 4 ∨ z.toInt = 5 ∨ z.toInt = 6 ∨ z.toInt = 7 ∨ z.toInt = 8 ∨ z.toInt = 9 ∨ z.toInt = 10 ∨ z.toInt = 11 ∨ z.toInt = 12 ∨ z.toInt = 13 ∨ z.toInt = 14 ∨ z.toInt = 15 ∨ z.toInt = 16 ∨ z.toInt = 17 ∨ z.toInt = 18 ∨ z.toInt = 19 ∨ z.toInt = 20 ∨ z.toInt = 21 ∨ z.toInt = 22 ∨ z.toInt = 23 ∨ z.toInt = 24 ∨ z.toInt = 25 ∨ z.toInt = 26 ∨ z.toInt = 27 ∨ z.toInt = 28 ∨ z.toInt = 29 ∨ z.toInt = 30 ∨ z.toInt = 31 ∨ z.toInt = 32 ∨ z.toInt = 33 ∨ z.toInt = 34 ∨ z.toInt = 35 ∨ z.toInt = 36 ∨ z.toInt = 37 ∨ z.toInt = 38 ∨ z.toInt = 39 ∨ z.toInt = 40 ∨ z.toInt = 41 ∨ z.toInt = 42 ∨ z.toInt = 43 ∨ z.toInt = 44 ∨ z.toInt = 45 ∨ z.toInt = 46 ∨ z.toInt = 47 ∨ z.toInt = 48 ∨ z.toInt = 49 ∨ z.toInt = 50 ∨ z.toInt = 51 ∨ z.toInt = 52 ∨ z.toInt = 53 ∨ z.toInt = 54 ∨ z.toInt = 55 ∨ z.toInt = 56 ∨ z.toInt = 57 ∨ z.toInt = 58 ∨ z.toInt = 59 ∨ z.toInt = 60 ∨ z.toInt = 61 ∨ z.toInt = 62 ∨ z.toInt = 63) with e | e | e | e | e | e | e | e | e | e | e | e | e | e | e | e | e | e | e | e | e | e | e | e | e | e | e | e | e | e | e | e | e | e | e | e | e | e | e | e | e | e | e | e | e | e | e | e | e | e | e | e | e | e | e | e | e | e | e | e | e | e | e | e
  · rw [show z = (0 : Int32) from own_e32 (by rw [e]; decide)]; rw [ushrL0]; exact h0
  · rw [show z = (1 : Int32) from own_e32 (by rw [e]; decide)]; have q : (ushrL y (1 : Int32)).toInt = (y.toInt % 18446744073709551616) / 2 := c_lushr y 1 1 (by decide) (by decide); omega
  · rw [show z = (2 : Int32) from own_e32 (by rw [e]; decide)]; have q : (ushrL y (2 : Int32)).toInt = (y.toInt % 18446744073709551616) / 4 := c_lushr y 2 2 (by decide) (by decide); omega
  · rw [show z = (3 : Int32) from own_e32 (by rw [e]; decide)]; have q : (ushrL y (3 : Int32)).toInt = (y.toInt % 18446744073709551616) / 8 := c_lushr y 3 3 (by decide) (by decide); omega
  · rw [show z = (4 : Int32) from own_e32 (by rw [e]; decide)]; have q : (ushrL y (4 : Int32)).toInt = (y.toInt % 18446744073709551616) / 16 := c_lushr y 4 4 (by decide) (by decide); omega
  · rw [show z = (5 : Int32) from own_e32 (by rw [e]; decide)]; have q : (ushrL y (5 : Int32)).toInt = (y.toInt % 18446744073709551616) / 32 := c_lushr y 5 5 (by decide) (by decide); omega
  · rw [show z = (6 : Int32) from own_e32 (by rw [e]; decide)]; have q : (ushrL y (6 : Int32)).toInt = (y.toInt % 18446744073709551616) / 64 := c_lushr y 6 6 (by decide) (by decide); omega
  · rw [show z = (7 : Int32) from own_e32 (by rw [e]; decide)]; have q : (ushrL y (7 : Int32)).toInt = (y.toInt % 18446744073709551616) / 128 := c_lushr y 7 7 (by decide) (by decide); omega
  · rw [show z = (8 : Int32) from own_e32 (by rw [e]; decide)]; have q : (ushrL y (8 : Int32)).toInt = (y.toInt % 18446744073709551616) / 256 := c_lushr y 8 8 (by decide) (by decide); omega
  · rw [show z = (9 : Int32) from own_e32 (by rw [e]; decide)]; have q : (ushrL y (9 : Int32)).toInt = (y.toInt % 18446744073709551616) / 512 := c_lushr y 9 9 (by decide) (by decide); omega
  · rw [show z = (10 : Int32) from own_e32 (by rw [e]; decide)]; have q : (ushrL y (10 : Int32)).toInt = (y.toInt % 18446744073709551616) / 1024 := c_lushr y 10 10 (by decide) (by decide); omega
  · rw [show z = (11 : Int32) from own_e32 (by rw [e]; decide)]; have q : (ushrL y (11 : Int32)).toInt = (y.toInt % 18446744073709551616) / 2048 := c_lushr y 11 11 (by decide) (by decide); omega
  · rw [show z = (12 : Int32) from own_e32 (by rw [e]; decide)]; have q : (ushrL y (12 : Int32)).toInt = (y.toInt % 18446744073709551616) / 4096 := c_lushr y 12 12 (by decide) (by decide); omega
  · rw [show z = (13 : Int32) from own_e32 (by rw [e]; decide)]; have q : (ushrL y (13 : Int32)).toInt = (y.toInt % 18446744073709551616) / 8192 := c_lushr y 13 13 (by decide) (by decide); omega
  · rw [show z = (14 : Int32) from own_e32 (by rw [e]; decide)]; have q : (ushrL y (14 : Int32)).toInt = (y.toInt % 18446744073709551616) / 16384 := c_lushr y 14 14 (by decide) (by decide); omega
  · rw [show z = (15 : Int32) from own_e32 (by rw [e]; decide)]; have q : (ushrL y (15 : Int32)).toInt = (y.toInt % 18446744073709551616) / 32768 := c_lushr y 15 15 (by decide) (by decide); omega
  · rw [show z = (16 : Int32) from own_e32 (by rw [e]; decide)]; have q : (ushrL y (16 : Int32)).toInt = (y.toInt % 18446744073709551616) / 65536 := c_lushr y 16 16 (by decide) (by decide); omega
  · rw [show z = (17 : Int32) from own_e32 (by rw [e]; decide)]; have q : (ushrL y (17 : Int32)).toInt = (y.toInt % 18446744073709551616) / 131072 := c_lushr y 17 17 (by decide) (by decide); omega
  · rw [show z = (18 : Int32) from own_e32 (by rw [e]; decide)]; have q : (ushrL y (18 : Int32)).toInt = (y.toInt % 18446744073709551616) / 262144 := c_lushr y 18 18 (by decide) (by decide); omega
  · rw [show z = (19 : Int32) from own_e32 (by rw [e]; decide)]; have q : (ushrL y (19 : Int32)).toInt = (y.toInt % 18446744073709551616) / 524288 := c_lushr y 19 19 (by decide) (by decide); omega
  · rw [show z = (20 : Int32) from own_e32 (by rw [e]; decide)]; have q : (ushrL y (20 : Int32)).toInt = (y.toInt % 18446744073709551616) / 1048576 := c_lushr y 20 20 (by decide) (by decide); omega
  · rw [show z = (21 : Int32) from own_e32 (by rw [e]; decide)]; have q : (ushrL y (21 : Int32)).toInt = (y.toInt % 18446744073709551616) / 2097152 := c_lushr y 21 21 (by decide) (by decide); omega
  · rw [show z = (22 : Int32) from own_e32 (by rw [e]; decide)]; have q : (ushrL y (22 : Int32)).toInt = (y.toInt % 18446744073709551616) / 4194304 := c_lushr y 22 22 (by decide) (by decide); omega
  · rw [show z = (23 : Int32) from own_e32 (by rw [e]; decide)]; have q : (ushrL y (23 : Int32)).toInt = (y.toInt % 18446744073709551616) / 8388608 := c_lushr y 23 23 (by decide) (by decide); omega
  · rw [show z = (24 : Int32) from own_e32 (by rw [e]; decide)]; have q : (ushrL y (24 : Int32)).toInt = (y.toInt % 18446744073709551616) / 16777216 := c_lushr y 24 24 (by decide) (by decide); omega
  · rw [show z = (25 : Int32) from own_e32 (by rw [e]; decide)]; have q : (ushrL y (25 : Int32)).toInt = (y.toInt % 18446744073709551616) / 33554432 := c_lushr y 25 25 (by decide) (by decide); omega
  · rw [show z = (26 : Int32) from own_e32 (by rw [e]; decide)]; have q : (ushrL y (26 : Int32)).toInt = (y.toInt % 18446744073709551616) / 67108864 := c_lushr y 26 26 (by decide) (by decide); omega
  · rw [show z = (27 : Int32) from own_e32 (by rw [e]; decide)]; have q : (ushrL y (27 : Int32)).toInt = (y.toInt % 18446744073709551616) / 134217728 := c_lushr y 27 27 (by decide) (by decide); omega
  · rw [show z = (28 : Int32) from own_e32 (by rw [e]; decide)]; have q : (ushrL y (28 : Int32)).toInt = (y.toInt % 18446744073709551616) / 268435456 := c_lushr y 28 28 (by decide) (by decide); omega
  · rw [show z = (29 : Int32) from own_e32 (by rw [e]; decide)]; have q : (ushrL y (29 : Int32)).toInt = (y.toInt % 18446744073709551616) / 536870912 := c_lushr y 29 29 (by decide) (by decide); omega
  · rw [show z = (30 : Int32) from own_e32 (by rw [e]; decide)]; have q : (ushrL y (30 : Int32)).toInt = (y.toInt % 18446744073709551616) / 1073741824 := c_lushr y 30 30 (by decide) (by decide); omega
  · rw [show z = (31 : Int32) from own_e32 (by rw [e]; decide)]; have q : (ushrL y (31 : Int32)).toInt = (y.toInt % 18446744073709551616) / 2147483648 := c_lushr y 31 31 (by decide) (by decide); omega
  · rw [show z = (32 : Int32) from own_e32 (by rw [e]; decide)]; have q : (ushrL y (32 : Int32)).toInt = (y.toInt % 18446744073709551616) / 4294967296 := c_lushr y 32 32 (by decide) (by decide); omega
  · rw [show z = (33 : Int32) from own_e32 (by rw [e]; decide)]; have q : (ushrL y (33 : Int32)).toInt = (y.toInt % 18446744073709551616) / 8589934592 := c_lushr y 33 33 (by decide) (by decide); omega
  · rw [show z = (34 : Int32) from own_e32 (by rw [e]; decide)]; have q : (ushrL y (34 : Int32)).toInt = (y.toInt % 18446744073709551616) / 17179869184 := c_lushr y 34 34 (by decide) (by decide); omega
  · rw [show z = (35 : Int32) from own_e32 (by rw [e]; decide)]; have q : (ushrL y (35 : Int32)).toInt = (y.toInt % 18446744073709551616) / 34359738368 := c_lushr y 35 35 (by decide) (by decide); omega
  · rw [show z = (36 : Int32) from own_e32 (by rw [e]; decide)]; have q : (ushrL y (36 : Int32)).toInt = (y.toInt % 18446744073709551616) / 68719476736 := c_lushr y 36 36 (by decide) (by decide); omega
  · rw [show z = (37 : Int32) from own_e32 (by rw [e]; decide)]; have q : (ushrL y (37 : Int32)).toInt = (y.toInt % 18446744073709551616) / 137438953472 := c_lushr y 37 37 (by decide) (by decide); omega
  · rw [show z = (38 : Int32) from own_e32 (by rw [e]; decide)]; have q : (ushrL y (38 : Int32)).toInt = (y.toInt % 18446744073709551616) / 274877906944 := c_lushr y 38 38 (by decide) (by decide); omega
  · rw [show z = (39 : Int32) from own_e32 (by rw [e]; decide)]; have q : (ushrL y (39 : Int32)).toInt = (y.toInt % 18446744073709551616) / 549755813888 := c_lushr y 39 39 (by decide) (by decide); omega
  · rw [show z = (40 : Int32) from own_e32 (by rw [e]; decide)]; have q : (ushrL y (40 : Int32)).toInt = (y.toInt % 18446744073709551616) / 1099511627776 := c_lushr y 40 40 (by decide) (by decide); omega
  · rw [show z = (41 : Int32) from own_e32 (by rw [e]; decide)]; have q : (ushrL y (41 : Int32)).toInt = (y.toInt % 18446744073709551616) / 2199023255552 := c_lushr y 41 41 (by decide) (by decide); omega
  · rw [show z = (42 : Int32) from own_e32 (by rw [e]; decide)]; have q : (ushrL y (42 : Int32)).toInt = (y.toInt % 18446744073709551616) / 4398046511104 := c_lushr y 42 42 (by decide) (by decide); omega
  · rw [show z = (43 : Int32) from own_e32 (by rw [e]; decide)]; have q : (ushrL y (43 : Int32)).toInt = (y.toInt % 18446744073709551616) / 8796093022208 := c_lushr y 43 43 (by decide) (by decide); omega
  · rw [show z = (44 : Int32) from own_e32 (by rw [e]; decide)]; have q : (ushrL y (44 : Int32)).toInt = (y.toInt % 18446744073709551616) / 17592186044416 := c_lushr y 44 44 (by decide) (by decide); omega
  · rw [show z = (45 : Int32) from own_e32 (by rw [e]; decide)]; have q : (ushrL y (45 : Int32)).toInt = (y.toInt % 18446744073709551616) / 35184372088832 := c_lushr y 45 45 (by decide) (by decide); omega
  · rw [show z = (46 : Int32) from own_e32 (by rw [e]; decide)]; have q : (ushrL y (46 : Int32)).toInt = (y.toInt % 18446744073709551616) / 70368744177664 := c_lushr y 46 46 (by decide) (by decide); omega
  · rw [show z = (47 : Int32) from own_e32 (by rw [e]; decide)]; have q : (ushrL y (47 : Int32)).toInt = (y.toInt % 18446744073709551616) / 140737488355328 := c_lushr y 47 47 (by decide) (by decide); omega
  · rw [show z = (48 : Int32) from own_e32 (by rw [e]; decide)]; have q : (ushrL y (48 : Int32)).toInt = (y.toInt % 18446744073709551616) / 281474976710656 := c_lushr y 48 48 (by decide) (by decide); omega
  · rw [show z = (49 : Int32) from own_e32 (by rw [e]; decide)]; have q : (ushrL y (49 : Int32)).toInt = (y.toInt % 18446744073709551616) / 562949953421312 := c_lushr y 49 49 (by decide) (by decide); omega
  · rw [show z = (50 : Int32) from own_e32 (by rw [e]; decide)]; have q : (ushrL y (50 : Int32)).toInt = (y.toInt % 18446744073709551616) / 1125899906842624 := c_lushr y 50 50 (by decide) (by decide); omega
  · rw [show z = (51 : Int32) from own_e32 (by rw [e]; decide)]; have q : (ushrL y (51 : Int32)).toInt = (y.toInt % 18446744073709551616) / 2251799813685248 := c_lushr y 51 51 (by decide) (by decide); omega
  · rw [show z = (52 : Int32) from own_e32 (by rw [e]; decide)]; have q : (ushrL y (52 : Int32)).toInt = (y.toInt % 18446744073709551616) / 4503599627370496 := c_lushr y 52 52 (by decide) (by decide); omega
  · rw [show z = (53 : Int32) from own_e32 (by rw [e]; decide)]; have q : (ushrL y (53 : Int32)).toInt = (y.toInt % 18446744073709551616) / 9007199254740992 := c_lushr y 53 53 (by decide) (by decide); omega
  · rw [show z = (54 : Int32) from own_e32 (by rw [e]; decide)]; have q : (ushrL y (54 : Int32)).toInt = (y.toInt % 18446744073709551616) / 18014398509481984 := c_lushr y 54 54 (by decide) (by decide); omega
  · rw [show z = (55 : Int32) from own_e32 (by rw [e]; decide)]; have q : (ushrL y (55 : Int32)).toInt = (y.toInt % 18446744073709551616) / 36028797018963968 := c_lushr y 55 55 (by decide) (by decide); omega
  · rw [show z = (56 : Int32) from own_e32 (by rw [e]; decide)]; have q : (ushrL y (56 : Int32)).toInt = (y.toInt % 18446744073709551616) / 72057594037927936 := c_lushr y 56 56 (by decide) (by decide); omega
  · rw [show z = (57 : Int32) from own_e32 (by rw [e]; decide)]; have q : (ushrL y (57 : Int32)).toInt = (y.toInt % 18446744073709551616) / 144115188075855872 := c_lushr y 57 57 (by decide) (by decide); omega
  · rw [show z = (58 : Int32) from own_e32 (by rw [e]; decide)]; have q : (ushrL y (58 : Int32)).toInt = (y.toInt % 18446744073709551616) / 288230376151711744 := c_lushr y 58 58 (by decide) (by decide); omega
  · rw [show z = (59 : Int32) from own_e32 (by rw [e]; decide)]; have q : (ushrL y (59 : Int32)).toInt = (y.toInt % 18446744073709551616) / 576460752303423488 := c_lushr y 59 59 (by decide) (by decide); omega
  · rw [show z = (60 : Int32) from own_e32 (by rw [e]; decide)]; have q : (ushrL y (60 : Int32)).toInt = (y.toInt % 18446744073709551616) / 1152921504606846976 := c_lushr y 60 60 (by decide) (by decide); omega
  · rw [show z = (61 : Int32) from own_e32 (by rw [e]; decide)]; have q : (ushrL y (61 : Int32)).toInt = (y.toInt % 18446744073709551616) / 2305843009213693952 := c_lushr y 61 61 (by decide) (by decide); omega
  · rw [show z = (62 : Int32) from own_e32 (by rw [e]; decide)]; have q : (ushrL y (62 : Int32)).toInt = (y.toInt % 18446744073709551616) / 4611686018427387904 := c_lushr y 62 62 (by decide) (by decide); omega
  · rw [show z = (63 : Int32) from own_e32 (by rw [e]; decide)]; have q : (ushrL y (63 : Int32)).toInt = (y.toInt % 18446744073709551616) / 9223372036854775808 := c_lushr y 63 63 (by decide) (by decide); omega
theorem law_met {l : Launch} {Z : State} {a0 : Array Value} (hw : HW Z a0) {n0 : Nat} {h : Heap} (xx : Int64) (s : Int32) : OMet l x B0 Z n0 #[(.long xx), (.int s)] h (fun v h' => v = some (.int 1)) := by
  refine OMet.of_wp (ls0 := #[.val (.long xx), .second, .val (.int s), .unset, .unset, .unset, .unset]) pl0 rfl rfl (fun m => own_entry 4 rfl rfl) ?_
  have kq : (4611686018427387904 : Int64).toInt = 4611686018427387904 := by decide
  have k32_0 : (0 : Int32).toInt = 0 := by decide
  have k32_1 : (1 : Int32).toInt = 1 := by decide
  have k32_63 : (63 : Int32).toInt = 63 := by decide
  have k32_54272 : (54272 : Int32).toInt = 54272 := by decide
  have k32_65535 : (65535 : Int32).toInt = 65535 := by decide
  have k64_4611686018427387904 : (4611686018427387904 : Int64).toInt = 4611686018427387904 := by decide
  have k64_9223372036854775807 : (9223372036854775807 : Int64).toInt = 9223372036854775807 := by decide
  refine WP.lloadN at_0 rfl (pc' := 1) rfl ?_
  refine WP.ldc2J at_1 (w0 hw) (pc' := 4) rfl ?_
  refine WP.land at_4 (pc' := 5) rfl ?_
  refine WP.iloadN at_5 rfl (pc' := 6) rfl ?_
  refine WP.bipush at_6 (z := (63 : Int32)) rfl (pc' := 8) rfl ?_
  refine WP.iand at_8 (pc' := 9) rfl ?_
  refine WP.lushr at_9 (pc' := 10) rfl ?_
  obtain ⟨L, e_L⟩ : ∃ z, z = (ushrL (xx &&& (9223372036854775807 : Int64)) (s &&& (63 : Int32))) := ⟨_, rfl⟩
  rw [← e_L]
  refine WP.lstoreN at_10 (pc' := 11) rfl (ls' := #[.val (.long xx), .second, .val (.int s), .val (.long L), .second, .unset, .unset]) rfl ?_
  have f1 : (xx &&& (9223372036854775807 : Int64)).toInt = xx.toInt % 9223372036854775808 := own_maskL _ _ 63 _ (by decide) (by decide) (by decide)
  have f2 : (s &&& (63 : Int32)).toInt = s.toInt % 64 := own_mask _ _ 6 _ (by decide) (by decide) (by decide)
  have hL : 0 ≤ L.toInt := by rw [e_L]; exact ushr_nn _ _ (by omega) (by omega)
  clear f1 f2
  refine WP.lloadN at_11 rfl (pc' := 12) rfl ?_
  refine WP.callS (y := (⟨"com/example/apportion/apportion/IdleTimeline", "runLength", "(J)C"⟩ : MethodName)) (By := B1) (as := [(.long L)]) (rest := []) at_12 (w1 hw) (w2 hw) (w3 hw) (w4 hw) (by decide) (run_met hw L hL) pd_3 rfl rfl rfl (by decide) (Nat.le_of_ble_eq_true rfl) (by decide) (by decide) (pc' := 15) rfl ?_
  rintro _ _ ⟨rfl, c0, rfl, hc⟩
  show WP _ _ _ _ _ _ _ _ _ _ [(.int c0)]
  refine WP.istore at_15 (pc' := 17) rfl (ls' := #[.val (.long xx), .second, .val (.int s), .val (.long L), .second, .val (.int c0), .unset]) rfl ?_
  refine WP.iload at_17 rfl (pc' := 19) rfl ?_
  refine WP.istore at_19 (pc' := 21) rfl (ls' := #[.val (.long xx), .second, .val (.int s), .val (.long L), .second, .val (.int c0), .val (.int c0)]) rfl ?_
  refine WP.lloadN at_21 rfl (pc' := 22) rfl ?_
  refine WP.ldc2J at_22 (w18 hw) (pc' := 25) rfl ?_
  refine WP.lcmpLt at_25 rfl at_26 (tgt := 42) (by decide) (pc' := 29) rfl (fun c25 => ?_) (fun c25 => ?_)
  ·
    refine WP.iload at_42 rfl (pc' := 44) rfl ?_
    refine WP.ldcI at_44 (w19 hw) (pc' := 46) rfl ?_
    refine WP.icmpLe at_46 (tgt := 51) (by decide) (pc' := 49) rfl (fun c46 => ?_) (fun c46 => ?_)
    ·
      refine WP.iload at_51 rfl (pc' := 53) rfl ?_
      refine WP.callS (y := (⟨"com/example/apportion/apportion/IdleTimelineRunLengthPinLaw", "val", "(I)J"⟩ : MethodName)) (By := B5) (as := [(.int c0)]) (rest := []) at_53 (w20 hw) (w21 hw) (w22 hw) (w23 hw) (by decide) (val_met hw c0 (by omega) (by omega)) pd_4 rfl rfl rfl (by decide) (Nat.le_of_ble_eq_true rfl) (by decide) (by decide) (pc' := 56) rfl ?_
      rintro _ _ ⟨rfl, w1, rfl, hw1⟩
      rw [← hw1] at hc
      show WP _ _ _ _ _ _ _ _ _ _ [(.long w1)]
      refine WP.lloadN at_56 rfl (pc' := 57) rfl ?_
      refine WP.lcmpGe at_57 rfl at_58 (tgt := 63) (by decide) (pc' := 61) rfl (fun c57 => ?_) (fun c57 => ?_)
      ·
        refine WP.iload at_63 rfl (pc' := 65) rfl ?_
        refine WP.ifEq at_65 (tgt := 80) (by decide) (pc' := 68) rfl (fun c65 => ?_) (fun c65 => ?_)
        ·
          refine WP.iconst at_80 (z := (1 : Int32)) rfl (pc' := 81) rfl ?_
          refine WP.goto at_81 (pc' := 85) (by decide) ?_
          exact WP.retN at_85 (t := .boolean) rfl (by simp) (by decide) (by decide) own_q1
        refine WP.iload at_68 rfl (pc' := 70) rfl ?_
        refine WP.iconst at_70 (z := (1 : Int32)) rfl (pc' := 71) rfl ?_
        refine WP.isub at_71 (pc' := 72) rfl ?_
        have f3 : (c0 - (1 : Int32)).toInt = c0.toInt - 1 := by rw [own_isub] <;> omega
        refine WP.callS (y := (⟨"com/example/apportion/apportion/IdleTimelineRunLengthPinLaw", "val", "(I)J"⟩ : MethodName)) (By := B5) (as := [(.int (c0 - (1 : Int32)))]) (rest := []) at_72 (w20 hw) (w21 hw) (w22 hw) (w23 hw) (by decide) (val_met hw (c0 - (1 : Int32)) (by omega) (by omega)) pd_4 rfl rfl rfl (by decide) (Nat.le_of_ble_eq_true rfl) (by decide) (by decide) (pc' := 75) rfl ?_
        rintro _ _ ⟨rfl, w2, rfl, hw2⟩
        rw [f3] at hw2
        rw [← hw2] at hc
        show WP _ _ _ _ _ _ _ _ _ _ [(.long w2)]
        refine WP.lloadN at_75 rfl (pc' := 76) rfl ?_
        refine WP.lcmpGe at_76 rfl at_77 (tgt := 84) (by decide) (pc' := 80) rfl (fun c76 => ?_) (fun c76 => ?_)
        ·
          refine WP.iconst at_84 (z := (0 : Int32)) rfl (pc' := 85) rfl ?_
          exact WP.retN at_85 (t := .boolean) rfl (by simp) (by decide) (by decide) (by exfalso; omega)
        refine WP.iconst at_80 (z := (1 : Int32)) rfl (pc' := 81) rfl ?_
        refine WP.goto at_81 (pc' := 85) (by decide) ?_
        exact WP.retN at_85 (t := .boolean) rfl (by simp) (by decide) (by decide) own_q1
      refine WP.iconst at_61 (z := (0 : Int32)) rfl (pc' := 62) rfl ?_
      exact WP.retN at_62 (t := .boolean) rfl (by simp) (by decide) (by decide) (by exfalso; omega)
    refine WP.iconst at_49 (z := (0 : Int32)) rfl (pc' := 50) rfl ?_
    exact WP.retN at_50 (t := .boolean) rfl (by simp) (by decide) (by decide) (by exfalso; omega)
  refine WP.iload at_29 rfl (pc' := 31) rfl ?_
  refine WP.ldcI at_31 (w26 hw) (pc' := 33) rfl ?_
  refine WP.icmpNe at_33 (tgt := 40) (by decide) (pc' := 36) rfl (fun c33 => ?_) (fun c33 => ?_)
  ·
    refine WP.iconst at_40 (z := (0 : Int32)) rfl (pc' := 41) rfl ?_
    exact WP.retN at_41 (t := .boolean) rfl (by simp) (by decide) (by decide) (by exfalso; omega)
  refine WP.iconst at_36 (z := (1 : Int32)) rfl (pc' := 37) rfl ?_
  refine WP.goto at_37 (pc' := 41) (by decide) ?_
  exact WP.retN at_41 (t := .boolean) rfl (by simp) (by decide) (by decide) own_q1
theorem comes_1 {Post : Tables → Env → Array Value → State → Outcome → State → Prop} (hpost : ∀ tb e args s v u, (limb_1_1.after args s (.returned v) u = true ∧ limb_1_2.after args s (.returned v) u = true ∧ True) → FrameEnd s (.returned v) u (Jvm.fieldLocs frame_1_writes args s ++ Jvm.arrayLocs frame_1_arrays args s ++ Jvm.staticLocs frame_1_statics s) 0 0 → Post tb e args s (.returned v) u) :
    ArmFor flags0 classFile x code maxLocals ret World_1 tables_1 room_1 Calls_1 rest_1 Pre_1 Post := by
  intro l hfl _ _ p e ha hc hk s m args below hf hA hF happ hP
  obtain ⟨hcalls, hrest, hpre⟩ := hP
  obtain ⟨-, -, -, hnamed, -, -, -, hat⟩ := (Spec.applies_iff hf).mp happ
  obtain ⟨hg, hn⟩ := and_e (Cond.before_iff.mp (show (Jvm.Cond.and given_1 narrow_1).before args s = true from hpre))
  obtain ⟨q0, g0⟩ := and_e hg
  obtain ⟨a0, a1, rfl⟩ : ∃ (a0 : Value) (a1 : Value), args = #[a0, a1] := by
    have hs : args.size = 2 := by simpa [Cond.value, given_1] using q0
    obtain ⟨L⟩ := args
    match L, hs with
    | [a0, a1], _ => exact ⟨a0, a1, rfl⟩
  have hw : HW s #[a0, a1] := fun d (hd : d ∈ tables_1) => atoms_spec (ws := Jvm.Cond.code x code maxLocals ret :: tables_1) hat d (List.mem_cons_of_mem _ hd)
  obtain ⟨p0, g1⟩ := and_e g0
  obtain ⟨i0, z0⟩ := isL_v p0
  obtain rfl : a0 = (.long i0) := Option.some.inj z0
  obtain ⟨i1, z1⟩ := is_v g1
  obtain rfl : a1 = (.int i1) := Option.some.inj z1
  obtain ⟨n, o, h1, h2, h3, _, L, rfl, ⟨rfl, N, -⟩, hq⟩ := law_met hw i0 i1 (Nat.le_refl _) tables_1 p e ha hc hk s m _ below hf ((Spec.applies_iff_loose hf).mp happ).1 ⟨rfl, State.Warmed39.refl s, rfl⟩ trivial
  refine ⟨n, _, h1, h2, h3, hpost _ _ _ _ _ _ ⟨Cond.after_iff.mpr rfl, Cond.after_iff.mpr (eq_i res_at (Term.int_eval (1)) rfl), trivial⟩ ⟨hq.1, hq.2.1, (hq.2.2.sift fun y hy => Or.inr (N y hy)).mono (by decide) (by decide)⟩⟩
theorem main_1_1 : Claimed_1_1 := comes_1 fun _ _ _ _ _ _ h hF => ⟨h.1, hF⟩
theorem main_1_2 : Claimed_1_2 := comes_1 fun _ _ _ _ _ _ h hF => ⟨h.2.1, hF⟩
end Jvm.Pilot.@@N@@
namespace Jvm.Pilot.@@N@@
open Jvm Jvm.ClassFile Sem Op Lib Jvm.Free Jvm.Stand Jvm.Pilot.@@N@@.Jvm.D
/-! MADE BY PROGRAM (witnessworld.py) out of the Statement's table words and the real class files: 16 classes; the members and pool entries that the words name. The judged class is class 1, her method 2. -/
namespace start1
open Jvm.ClassFile
def u (s : String) : CpInfo := .utf8 (stringToUtf16 s)
/-- a pool by its gaps: so many unusable entries, then the entry; so many at the end -/
def gap : Nat → List CpInfo → List CpInfo
  | 0, r => r
  | n + 1, r => .unusable :: gap n r
def poolList (es : List (Nat × CpInfo)) (last : Nat) : List CpInfo := es.foldr (fun e r => gap e.1 (e.2 :: r)) (gap last [])
def pool (es : List (Nat × CpInfo)) (last : Nat) : Array CpInfo := ⟨poolList es last⟩
def fileOf (pool : Array CpInfo) (this : Nat) (attrs : Array Attribute := #[]) (ms : Array MethodInfo := #[]) (fl : Nat := 33) (sup : Nat := 0) (ifs : Array Nat := #[]) (fds : Array FieldInfo := #[]) : ClassFile where
  minorVersion := 0
  majorVersion := 65
  constantPool := pool
  accessFlags := fl
  thisClass := this
  superClass := sup
  interfaces := ifs
  fields := fds
  methods := ms
  attributes := attrs
def plain (name : String) (sup : Option ClassId) : Class where
  name := name
  kind := .ordinary
  loader := none
  accessFlags := 33
  super := sup
  interfaces := #[]
  cf := none
  fields := #[]
  methods := #[]
  instanceTypes := #[]
  staticTypes := #[]
  resolved := #[]
  callSites := []
  init := .initialized
  statics := none
  mirror := none

def pool0 : Array CpInfo := pool [(5, u "<init>"), (0, u "()V"), (1, .class_ 10), (1, u "java/lang/Object")] 113

def k0m0 : Method := { name := "<init>", desc := "()V", sig := { parameters := [], returnType := none }, accessFlags := 1, code := none }
/-- java/lang/Object -/
def k0 : Class := { plain "java/lang/Object" none with
  accessFlags := 33
  interfaces := #[]
  cf := some (fileOf pool0 8 #[] #[{ accessFlags := 1, nameIndex := 5, descriptorIndex := 6, attributes := #[] }] 33 0 #[] #[])
  fields := #[]
  methods := #[k0m0]
  instanceTypes := #[]
  staticTypes := #[]
  resolved := Array.replicate 124 none
  statics := none }

def pool1 : Array CpInfo := pool [(2, .class_ 4), (1, u "java/lang/Object"), (0, u "<init>"), (0, u "()V"), (2, .long 9223372036854775807), (1, .methodref 12 13), (0, .class_ 14), (0, .nameAndType 15 16), (0, u "com/example/apportion/apportion/IdleTimeline"), (0, u "runLength"), (0, u "(J)C"), (0, .long 4611686018427387904), (1, .integer 65535), (0, .integer 54272), (0, .methodref 22 23), (0, .class_ 24), (0, .nameAndType 25 26), (0, u "com/example/apportion/apportion/IdleTimelineRunLengthPinLaw"), (0, u "val"), (0, u "(I)J"), (3, u "law"), (0, u "(JI)Z")] 2

def k1m0 : Method := { name := "<init>", desc := "()V", sig := { parameters := [], returnType := none }, accessFlags := 1, code := none }
def k1c1 : Code := { maxStack := 3, maxLocals := 4, code := method_2_code, exceptionTable := #[], attributes := #[] }
def k1m1 : Method := { name := "val", desc := "(I)J", sig := { parameters := [.int], returnType := some .long }, accessFlags := 10, code := some k1c1 }
def k1c2 : Code := { maxStack := 4, maxLocals := 7, code := code, exceptionTable := #[], attributes := #[] }
def k1m2 : Method := { name := "law", desc := "(JI)Z", sig := { parameters := [.long, .int], returnType := some .boolean }, accessFlags := 9, code := some k1c2 }
/-- com/example/apportion/apportion/IdleTimelineRunLengthPinLaw -/
def k1 : Class := { plain "com/example/apportion/apportion/IdleTimelineRunLengthPinLaw" (some 0) with
  accessFlags := 49
  interfaces := #[]
  cf := some (fileOf pool1 22 #[] #[{ accessFlags := 1, nameIndex := 5, descriptorIndex := 6, attributes := #[] }, { accessFlags := 10, nameIndex := 25, descriptorIndex := 26, attributes := #[] }, { accessFlags := 9, nameIndex := 30, descriptorIndex := 31, attributes := #[] }] 49 2 #[] #[])
  fields := #[]
  methods := #[k1m0, k1m1, k1m2]
  instanceTypes := #[]
  staticTypes := #[]
  resolved := Array.replicate 34 none
  statics := none }

def pool2 : Array CpInfo := pool [(1, .class_ 2), (0, u "com/example/apportion/apportion/IdleTimeline"), (12, u "words"), (5, .class_ 23), (1, u "java/lang/Object"), (3, u "freeBlock"), (0, u "I"), (2, u "unused"), (0, u "[I"), (9, u "rises"), (0, u "Lcom/example/apportion/apportion/SplitMix64;"), (2, u "finger"), (2, u "loosePassed"), (2, u "passedLoose"), (6, u "numberOfLeadingZeros"), (2, u "classes"), (2, u "runsBlock"), (2, u "shortFrom"), (0, u "[J"), (2, u "shortUntil"), (2, u "inner"), (2, u "pieceShortFrom"), (2, u "pieceShortUntil"), (2, u "pieceInner"), (2, u "common"), (2, u "trial"), (2, u "allWords"), (16, u "time"), (2, u "next"), (2, u "previous"), (2, u "idle"), (1, .class_ 123), (1, u "java/lang/Math"), (1, u "(II)I"), (2, u "sets"), (2, u "level"), (0, u "[B"), (2, u "tower"), (2, u "runs"), (0, u "[C"), (20, u "allocated"), (2, u "head"), (9, u "gaps"), (0, u "J"), (8, u "work"), (2, u "keepsLevels"), (0, u "Z"), (8, .class_ 198), (1, u "com/example/apportion/apportion/IdleTimeline$Runs"), (8, u "blocksMade"), (2, u "searches"), (4, u "spared"), (7, .class_ 224), (0, u "java/lang/Long"), (0, .methodref 121 226), (0, .nameAndType 227 125), (0, u "max"), (19, u "(J)I"), (80, u "C"), (20, .integer 65535), (2, u "runLength"), (16, u "(J)C"), (0, .long 4611686018427387904), (1, .methodref 223 373), (0, .nameAndType 59 247), (24, u "markedWord"), (6, u "markedBits"), (2, u "wordsMarked"), (49, .class_ 459), (0, u "com/example/apportion/apportion/IdleTimeline$StretchProfile"), (21, u "windowLast"), (18, u "runFirst"), (6, u "runFrom"), (19, u "goesOnFrom"), (2, u "runSpanOwner"), (2, u "runSpanLevel"), (2, u "loosePassedCount"), (29, u "NONE"), (2, u "RISE_BITS"), (1, u "TOP"), (1, u "WALKED"), (1, u "WEIGHED_EVERY"), (1, u "LEVELS_ABOVE"), (1, u "LOOSE"), (1, u "UNBOUNDED"), (0, u "AT_END"), (0, u "DOWN"), (1, u "ALL_ENOUGH"), (0, u "RUN_ENDS"), (1, u "RUN_GOES_ON"), (0, u "IN_SPAN")] 77

def k2c0 : Code := { maxStack := 6, maxLocals := 5, code := prog_99_method_42_code, exceptionTable := #[], attributes := #[] }
def k2m0 : Method := { name := "runLength", desc := "(J)C", sig := { parameters := [.long], returnType := some .char }, accessFlags := 8, code := some k2c0 }
/-- com/example/apportion/apportion/IdleTimeline -/
def k2 : Class := { plain "com/example/apportion/apportion/IdleTimeline" (some 0) with
  accessFlags := 48
  interfaces := #[]
  cf := some (fileOf pool2 1 #[.nestMembers #[458, 196]] #[{ accessFlags := 8, nameIndex := 352, descriptorIndex := 369, attributes := #[] }] 48 21 #[] #[{ accessFlags := 26, nameIndex := 566, descriptorIndex := 28, attributes := #[] }, { accessFlags := 26, nameIndex := 569, descriptorIndex := 28, attributes := #[] }, { accessFlags := 26, nameIndex := 571, descriptorIndex := 28, attributes := #[] }, { accessFlags := 26, nameIndex := 573, descriptorIndex := 28, attributes := #[] }, { accessFlags := 26, nameIndex := 575, descriptorIndex := 28, attributes := #[] }, { accessFlags := 26, nameIndex := 577, descriptorIndex := 28, attributes := #[] }, { accessFlags := 18, nameIndex := 15, descriptorIndex := 28, attributes := #[] }, { accessFlags := 18, nameIndex := 62, descriptorIndex := 28, attributes := #[] }, { accessFlags := 2, nameIndex := 110, descriptorIndex := 69, attributes := #[] }, { accessFlags := 2, nameIndex := 113, descriptorIndex := 32, attributes := #[] }, { accessFlags := 2, nameIndex := 116, descriptorIndex := 32, attributes := #[] }, { accessFlags := 2, nameIndex := 119, descriptorIndex := 32, attributes := #[] }, { accessFlags := 2, nameIndex := 128, descriptorIndex := 69, attributes := #[] }, { accessFlags := 2, nameIndex := 131, descriptorIndex := 132, attributes := #[] }, { accessFlags := 2, nameIndex := 135, descriptorIndex := 32, attributes := #[] }, { accessFlags := 18, nameIndex := 65, descriptorIndex := 28, attributes := #[] }, { accessFlags := 2, nameIndex := 138, descriptorIndex := 139, attributes := #[] }, { accessFlags := 2, nameIndex := 207, descriptorIndex := 28, attributes := #[] }, { accessFlags := 2, nameIndex := 27, descriptorIndex := 28, attributes := #[] }, { accessFlags := 2, nameIndex := 160, descriptorIndex := 28, attributes := #[] }, { accessFlags := 18, nameIndex := 31, descriptorIndex := 32, attributes := #[] }, { accessFlags := 18, nameIndex := 42, descriptorIndex := 43, attributes := #[] }, { accessFlags := 2, nameIndex := 163, descriptorIndex := 28, attributes := #[] }, { accessFlags := 2, nameIndex := 46, descriptorIndex := 28, attributes := #[] }, { accessFlags := 2, nameIndex := 183, descriptorIndex := 174, attributes := #[] }, { accessFlags := 2, nameIndex := 186, descriptorIndex := 187, attributes := #[] }, { accessFlags := 2, nameIndex := 210, descriptorIndex := 174, attributes := #[] }, { accessFlags := 2, nameIndex := 215, descriptorIndex := 174, attributes := #[] }, { accessFlags := 2, nameIndex := 173, descriptorIndex := 174, attributes := #[] }, { accessFlags := 2, nameIndex := 87, descriptorIndex := 69, attributes := #[] }, { accessFlags := 2, nameIndex := 90, descriptorIndex := 69, attributes := #[] }, { accessFlags := 18, nameIndex := 93, descriptorIndex := 32, attributes := #[] }, { accessFlags := 2, nameIndex := 398, descriptorIndex := 32, attributes := #[] }, { accessFlags := 2, nameIndex := 405, descriptorIndex := 69, attributes := #[] }, { accessFlags := 2, nameIndex := 408, descriptorIndex := 28, attributes := #[] }, { accessFlags := 18, nameIndex := 68, descriptorIndex := 69, attributes := #[] }, { accessFlags := 18, nameIndex := 72, descriptorIndex := 69, attributes := #[] }, { accessFlags := 18, nameIndex := 75, descriptorIndex := 69, attributes := #[] }, { accessFlags := 18, nameIndex := 78, descriptorIndex := 69, attributes := #[] }, { accessFlags := 18, nameIndex := 81, descriptorIndex := 69, attributes := #[] }, { accessFlags := 18, nameIndex := 84, descriptorIndex := 69, attributes := #[] }, { accessFlags := 2, nameIndex := 500, descriptorIndex := 28, attributes := #[] }, { accessFlags := 2, nameIndex := 507, descriptorIndex := 174, attributes := #[] }, { accessFlags := 2, nameIndex := 530, descriptorIndex := 28, attributes := #[] }, { accessFlags := 2, nameIndex := 533, descriptorIndex := 28, attributes := #[] }, { accessFlags := 2, nameIndex := 527, descriptorIndex := 174, attributes := #[] }, { accessFlags := 2, nameIndex := 481, descriptorIndex := 28, attributes := #[] }, { accessFlags := 18, nameIndex := 49, descriptorIndex := 32, attributes := #[] }, { accessFlags := 2, nameIndex := 52, descriptorIndex := 32, attributes := #[] }, { accessFlags := 2, nameIndex := 536, descriptorIndex := 28, attributes := #[] }, { accessFlags := 26, nameIndex := 579, descriptorIndex := 328, attributes := #[] }, { accessFlags := 26, nameIndex := 581, descriptorIndex := 328, attributes := #[] }, { accessFlags := 26, nameIndex := 582, descriptorIndex := 328, attributes := #[] }, { accessFlags := 26, nameIndex := 583, descriptorIndex := 28, attributes := #[] }, { accessFlags := 26, nameIndex := 585, descriptorIndex := 28, attributes := #[] }, { accessFlags := 26, nameIndex := 586, descriptorIndex := 28, attributes := #[] }, { accessFlags := 26, nameIndex := 588, descriptorIndex := 28, attributes := #[] }, { accessFlags := 26, nameIndex := 589, descriptorIndex := 28, attributes := #[] }])
  fields := #[{ name := "NONE", type := .int, accessFlags := 26, slot := 0, constantValue := 0 }, { name := "RISE_BITS", type := .int, accessFlags := 26, slot := 1, constantValue := 0 }, { name := "TOP", type := .int, accessFlags := 26, slot := 2, constantValue := 0 }, { name := "WALKED", type := .int, accessFlags := 26, slot := 3, constantValue := 0 }, { name := "WEIGHED_EVERY", type := .int, accessFlags := 26, slot := 4, constantValue := 0 }, { name := "LEVELS_ABOVE", type := .int, accessFlags := 26, slot := 5, constantValue := 0 }, { name := "words", type := .int, accessFlags := 18, slot := 0, constantValue := 0 }, { name := "classes", type := .int, accessFlags := 18, slot := 1, constantValue := 0 }, { name := "time", type := (.array .long), accessFlags := 2, slot := 2, constantValue := 0 }, { name := "next", type := (.array .int), accessFlags := 2, slot := 3, constantValue := 0 }, { name := "previous", type := (.array .int), accessFlags := 2, slot := 4, constantValue := 0 }, { name := "idle", type := (.array .int), accessFlags := 2, slot := 5, constantValue := 0 }, { name := "sets", type := (.array .long), accessFlags := 2, slot := 6, constantValue := 0 }, { name := "level", type := (.array .byte), accessFlags := 2, slot := 7, constantValue := 0 }, { name := "tower", type := (.array .int), accessFlags := 2, slot := 8, constantValue := 0 }, { name := "runsBlock", type := .int, accessFlags := 18, slot := 9, constantValue := 0 }, { name := "runs", type := (.array .char), accessFlags := 2, slot := 10, constantValue := 0 }, { name := "blocksMade", type := .int, accessFlags := 2, slot := 11, constantValue := 0 }, { name := "freeBlock", type := .int, accessFlags := 2, slot := 12, constantValue := 0 }, { name := "allocated", type := .int, accessFlags := 2, slot := 13, constantValue := 0 }, { name := "unused", type := (.array .int), accessFlags := 18, slot := 14, constantValue := 0 }, { name := "rises", type := (.object "com/example/apportion/apportion/SplitMix64"), accessFlags := 18, slot := 15, constantValue := 0 }, { name := "head", type := .int, accessFlags := 2, slot := 16, constantValue := 0 }, { name := "finger", type := .int, accessFlags := 2, slot := 17, constantValue := 0 }, { name := "work", type := .long, accessFlags := 2, slot := 18, constantValue := 0 }, { name := "keepsLevels", type := .boolean, accessFlags := 2, slot := 19, constantValue := 0 }, { name := "searches", type := .long, accessFlags := 2, slot := 20, constantValue := 0 }, { name := "spared", type := .long, accessFlags := 2, slot := 21, constantValue := 0 }, { name := "gaps", type := .long, accessFlags := 2, slot := 22, constantValue := 0 }, { name := "common", type := (.array .long), accessFlags := 2, slot := 23, constantValue := 0 }, { name := "trial", type := (.array .long), accessFlags := 2, slot := 24, constantValue := 0 }, { name := "allWords", type := (.array .int), accessFlags := 18, slot := 25, constantValue := 0 }, { name := "markedWord", type := (.array .int), accessFlags := 2, slot := 26, constantValue := 0 }, { name := "markedBits", type := (.array .long), accessFlags := 2, slot := 27, constantValue := 0 }, { name := "wordsMarked", type := .int, accessFlags := 2, slot := 28, constantValue := 0 }, { name := "shortFrom", type := (.array .long), accessFlags := 18, slot := 29, constantValue := 0 }, { name := "shortUntil", type := (.array .long), accessFlags := 18, slot := 30, constantValue := 0 }, { name := "inner", type := (.array .long), accessFlags := 18, slot := 31, constantValue := 0 }, { name := "pieceShortFrom", type := (.array .long), accessFlags := 18, slot := 32, constantValue := 0 }, { name := "pieceShortUntil", type := (.array .long), accessFlags := 18, slot := 33, constantValue := 0 }, { name := "pieceInner", type := (.array .long), accessFlags := 18, slot := 34, constantValue := 0 }, { name := "runFirst", type := .int, accessFlags := 2, slot := 35, constantValue := 0 }, { name := "runFrom", type := .long, accessFlags := 2, slot := 36, constantValue := 0 }, { name := "runSpanOwner", type := .int, accessFlags := 2, slot := 37, constantValue := 0 }, { name := "runSpanLevel", type := .int, accessFlags := 2, slot := 38, constantValue := 0 }, { name := "goesOnFrom", type := .long, accessFlags := 2, slot := 39, constantValue := 0 }, { name := "windowLast", type := .int, accessFlags := 2, slot := 40, constantValue := 0 }, { name := "loosePassed", type := (.array .int), accessFlags := 18, slot := 41, constantValue := 0 }, { name := "passedLoose", type := (.array .int), accessFlags := 2, slot := 42, constantValue := 0 }, { name := "loosePassedCount", type := .int, accessFlags := 2, slot := 43, constantValue := 0 }, { name := "LOOSE", type := .char, accessFlags := 26, slot := 6, constantValue := 0 }, { name := "UNBOUNDED", type := .char, accessFlags := 26, slot := 7, constantValue := 0 }, { name := "AT_END", type := .char, accessFlags := 26, slot := 8, constantValue := 0 }, { name := "DOWN", type := .int, accessFlags := 26, slot := 9, constantValue := 0 }, { name := "ALL_ENOUGH", type := .int, accessFlags := 26, slot := 10, constantValue := 0 }, { name := "RUN_ENDS", type := .int, accessFlags := 26, slot := 11, constantValue := 0 }, { name := "RUN_GOES_ON", type := .int, accessFlags := 26, slot := 12, constantValue := 0 }, { name := "IN_SPAN", type := .int, accessFlags := 26, slot := 13, constantValue := 0 }]
  methods := #[k2m0]
  instanceTypes := #[.int, .int, (.array .long), (.array .int), (.array .int), (.array .int), (.array .long), (.array .byte), (.array .int), .int, (.array .char), .int, .int, .int, (.array .int), (.object "com/example/apportion/apportion/SplitMix64"), .int, .int, .long, .boolean, .long, .long, .long, (.array .long), (.array .long), (.array .int), (.array .int), (.array .long), .int, (.array .long), (.array .long), (.array .long), (.array .long), (.array .long), (.array .long), .int, .long, .int, .int, .long, .int, (.array .int), (.array .int), .int]
  staticTypes := #[.int, .int, .int, .int, .int, .int, .char, .char, .char, .int, .int, .int, .int, .int]
  resolved := Array.replicate 667 none
  statics := none }

def pool3 : Array CpInfo := pool [(1, .class_ 2), (0, u "java/io/Serializable"), (0, .class_ 4), (0, u "java/lang/Object")] 2

/-- java/io/Serializable -/
def k3 : Class := { plain "java/io/Serializable" (some 0) with
  accessFlags := 1537
  interfaces := #[]
  cf := some (fileOf pool3 1 #[] #[] 1537 3 #[] #[])
  fields := #[]
  methods := #[]
  instanceTypes := #[]
  staticTypes := #[]
  resolved := Array.replicate 7 none
  statics := none }

def pool4 : Array CpInfo := pool [(2, .class_ 4), (1, u "java/lang/Object"), (0, u "<init>"), (0, u "()V"), (1, .class_ 10), (1, u "java/lang/Number"), (2, .class_ 14), (0, u "java/io/Serializable"), (0, u "serialVersionUID"), (0, u "J")] 20

def k4m0 : Method := { name := "<init>", desc := "()V", sig := { parameters := [], returnType := none }, accessFlags := 1, code := none }
/-- java/lang/Number -/
def k4 : Class := { plain "java/lang/Number" (some 0) with
  accessFlags := 1057
  interfaces := #[3]
  cf := some (fileOf pool4 8 #[] #[{ accessFlags := 1, nameIndex := 5, descriptorIndex := 6, attributes := #[] }] 1057 2 #[13] #[{ accessFlags := 26, nameIndex := 15, descriptorIndex := 16, attributes := #[] }])
  fields := #[{ name := "serialVersionUID", type := .long, accessFlags := 26, slot := 0, constantValue := 0 }]
  methods := #[k4m0]
  instanceTypes := #[]
  staticTypes := #[.long]
  resolved := Array.replicate 37 none
  statics := none }

def pool5 : Array CpInfo := pool [(1, .class_ 2), (0, u "java/lang/Comparable"), (0, .class_ 4), (0, u "java/lang/Object")] 7

/-- java/lang/Comparable -/
def k5 : Class := { plain "java/lang/Comparable" (some 0) with
  accessFlags := 1537
  interfaces := #[]
  cf := some (fileOf pool5 1 #[] #[] 1537 3 #[] #[])
  fields := #[]
  methods := #[]
  instanceTypes := #[]
  staticTypes := #[]
  resolved := Array.replicate 12 none
  statics := none }

def pool6 : Array CpInfo := pool [(1, .class_ 2), (0, u "java/lang/constant/Constable"), (0, .class_ 4), (0, u "java/lang/Object")] 6

/-- java/lang/constant/Constable -/
def k6 : Class := { plain "java/lang/constant/Constable" (some 0) with
  accessFlags := 1537
  interfaces := #[]
  cf := some (fileOf pool6 1 #[] #[] 1537 3 #[] #[])
  fields := #[]
  methods := #[]
  instanceTypes := #[]
  staticTypes := #[]
  resolved := Array.replicate 11 none
  statics := none }

def pool7 : Array CpInfo := pool [(1, .class_ 2), (0, u "java/lang/constant/ConstantDesc"), (0, .class_ 4), (0, u "java/lang/Object")] 32

/-- java/lang/constant/ConstantDesc -/
def k7 : Class := { plain "java/lang/constant/ConstantDesc" (some 0) with
  accessFlags := 1537
  interfaces := #[]
  cf := some (fileOf pool7 1 #[] #[] 1537 3 #[] #[])
  fields := #[]
  methods := #[]
  instanceTypes := #[]
  staticTypes := #[]
  resolved := Array.replicate 37 none
  statics := none }

def pool8 : Array CpInfo := pool [(1, .class_ 2), (0, u "java/lang/Long"), (15, .class_ 20), (1, u "java/lang/Integer"), (79, u "numberOfLeadingZeros"), (0, u "(J)I"), (133, .class_ 237), (1, u "java/lang/Long$LongCache"), (33, .class_ 272), (0, u "java/lang/Number"), (2, u "value"), (0, u "J"), (31, .methodref 18 309), (0, .nameAndType 100 310), (0, u "(I)I"), (50, u "TYPE"), (0, u "Ljava/lang/Class;"), (0, .class_ 364), (0, u "java/lang/Comparable"), (0, .class_ 366), (0, u "java/lang/constant/Constable"), (0, .class_ 368), (0, u "java/lang/constant/ConstantDesc"), (0, u "MIN_VALUE"), (1, u "MAX_VALUE"), (4, u "SIZE"), (0, u "I"), (1, u "BYTES"), (1, u "serialVersionUID")] 142

def k8c0 : Code := { maxStack := 3, maxLocals := 3, code := jdk_35_method_48_code, exceptionTable := #[], attributes := #[] }
def k8m0 : Method := { name := "numberOfLeadingZeros", desc := "(J)I", sig := { parameters := [.long], returnType := some .int }, accessFlags := 9, code := some k8c0 }
/-- java/lang/Long -/
def k8 : Class := { plain "java/lang/Long" (some 4) with
  accessFlags := 49
  interfaces := #[5, 6, 7]
  cf := some (fileOf pool8 1 #[.nestMembers #[235]] #[{ accessFlags := 9, nameIndex := 100, descriptorIndex := 101, attributes := #[] }] 49 271 #[363, 365, 367] #[{ accessFlags := 25, nameIndex := 369, descriptorIndex := 276, attributes := #[] }, { accessFlags := 25, nameIndex := 371, descriptorIndex := 276, attributes := #[] }, { accessFlags := 25, nameIndex := 361, descriptorIndex := 362, attributes := #[] }, { accessFlags := 18, nameIndex := 275, descriptorIndex := 276, attributes := #[] }, { accessFlags := 25, nameIndex := 376, descriptorIndex := 377, attributes := #[] }, { accessFlags := 25, nameIndex := 379, descriptorIndex := 377, attributes := #[] }, { accessFlags := 26, nameIndex := 381, descriptorIndex := 276, attributes := #[] }])
  fields := #[{ name := "MIN_VALUE", type := .long, accessFlags := 25, slot := 0, constantValue := 0 }, { name := "MAX_VALUE", type := .long, accessFlags := 25, slot := 1, constantValue := 0 }, { name := "TYPE", type := (.object "java/lang/Class"), accessFlags := 25, slot := 2, constantValue := 0 }, { name := "value", type := .long, accessFlags := 18, slot := 0, constantValue := 0 }, { name := "SIZE", type := .int, accessFlags := 25, slot := 3, constantValue := 0 }, { name := "BYTES", type := .int, accessFlags := 25, slot := 4, constantValue := 0 }, { name := "serialVersionUID", type := .long, accessFlags := 26, slot := 5, constantValue := 0 }]
  methods := #[k8m0]
  instanceTypes := #[.long]
  staticTypes := #[.long, .long, (.object "java/lang/Class"), .int, .int, .long]
  resolved := Array.replicate 524 none
  statics := none }

def pool9 : Array CpInfo := pool [(1, .class_ 2), (0, u "java/lang/Integer"), (16, u "digits"), (0, u "[C"), (32, u "numberOfLeadingZeros"), (0, u "(I)I"), (30, u "DigitOnes"), (0, u "[B"), (2, u "DigitTens"), (99, .class_ 190), (0, u "java/lang/Integer$IntegerCache"), (3, u "I"), (8, .class_ 204), (0, u "java/lang/Number"), (2, u "value"), (56, .integer 65536), (37, u "TYPE"), (0, u "Ljava/lang/Class;"), (0, .class_ 305), (0, u "java/lang/Comparable"), (0, .class_ 307), (0, u "java/lang/constant/Constable"), (0, .class_ 309), (0, u "java/lang/constant/ConstantDesc"), (0, u "MIN_VALUE"), (1, u "MAX_VALUE"), (3, u "SIZE"), (1, u "BYTES"), (1, u "serialVersionUID"), (0, u "J")] 131

def k9c0 : Code := { maxStack := 3, maxLocals := 2, code := jdk_33_method_47_code, exceptionTable := #[], attributes := #[] }
def k9m0 : Method := { name := "numberOfLeadingZeros", desc := "(I)I", sig := { parameters := [.int], returnType := some .int }, accessFlags := 9, code := some k9c0 }
/-- java/lang/Integer -/
def k9 : Class := { plain "java/lang/Integer" (some 4) with
  accessFlags := 49
  interfaces := #[5, 6, 7]
  cf := some (fileOf pool9 1 #[.nestMembers #[189]] #[{ accessFlags := 9, nameIndex := 53, descriptorIndex := 54, attributes := #[] }] 49 203 #[304, 306, 308] #[{ accessFlags := 25, nameIndex := 310, descriptorIndex := 194, attributes := #[] }, { accessFlags := 25, nameIndex := 312, descriptorIndex := 194, attributes := #[] }, { accessFlags := 25, nameIndex := 302, descriptorIndex := 303, attributes := #[] }, { accessFlags := 24, nameIndex := 19, descriptorIndex := 20, attributes := #[] }, { accessFlags := 24, nameIndex := 89, descriptorIndex := 86, attributes := #[] }, { accessFlags := 24, nameIndex := 85, descriptorIndex := 86, attributes := #[] }, { accessFlags := 18, nameIndex := 207, descriptorIndex := 194, attributes := #[] }, { accessFlags := 25, nameIndex := 316, descriptorIndex := 194, attributes := #[] }, { accessFlags := 25, nameIndex := 318, descriptorIndex := 194, attributes := #[] }, { accessFlags := 26, nameIndex := 320, descriptorIndex := 321, attributes := #[] }])
  fields := #[{ name := "MIN_VALUE", type := .int, accessFlags := 25, slot := 0, constantValue := 0 }, { name := "MAX_VALUE", type := .int, accessFlags := 25, slot := 1, constantValue := 0 }, { name := "TYPE", type := (.object "java/lang/Class"), accessFlags := 25, slot := 2, constantValue := 0 }, { name := "digits", type := (.array .char), accessFlags := 24, slot := 3, constantValue := 0 }, { name := "DigitTens", type := (.array .byte), accessFlags := 24, slot := 4, constantValue := 0 }, { name := "DigitOnes", type := (.array .byte), accessFlags := 24, slot := 5, constantValue := 0 }, { name := "value", type := .int, accessFlags := 18, slot := 0, constantValue := 0 }, { name := "SIZE", type := .int, accessFlags := 25, slot := 6, constantValue := 0 }, { name := "BYTES", type := .int, accessFlags := 25, slot := 7, constantValue := 0 }, { name := "serialVersionUID", type := .long, accessFlags := 26, slot := 8, constantValue := 0 }]
  methods := #[k9m0]
  instanceTypes := #[.int]
  staticTypes := #[.int, .int, (.object "java/lang/Class"), (.array .char), (.array .byte), (.array .byte), .int, .int, .long]
  resolved := Array.replicate 453 none
  statics := none }

def pool10 : Array CpInfo := pool [(1, .class_ 2), (0, u "java/lang/Math"), (1, .class_ 6), (1, u "java/lang/Object"), (0, u "<init>"), (0, u "()V"), (89, .class_ 100), (1, u "java/lang/Math$RandomNumberGeneratorHolder"), (71, u "negativeZeroFloatBits"), (0, u "J"), (2, u "negativeZeroDoubleBits"), (21, u "max"), (46, u "$assertionsDisabled"), (0, u "Z"), (88, u "(II)I"), (2, u "twoToTheDoubleScaleDown"), (0, u "D"), (4, u "twoToTheDoubleScaleUp"), (9, u "E"), (3, u "PI"), (2, u "TAU"), (2, u "DEGREES_TO_RADIANS"), (0, u "RADIANS_TO_DEGREES")] 94

def k10m0 : Method := { name := "<init>", desc := "()V", sig := { parameters := [], returnType := none }, accessFlags := 2, code := none }
def k10c1 : Code := { maxStack := 2, maxLocals := 2, code := jdk_29_method_65_code, exceptionTable := #[], attributes := #[] }
def k10m1 : Method := { name := "max", desc := "(II)I", sig := { parameters := [.int, .int], returnType := some .int }, accessFlags := 9, code := some k10c1 }
/-- java/lang/Math -/
def k10 : Class := { plain "java/lang/Math" (some 0) with
  accessFlags := 49
  interfaces := #[]
  cf := some (fileOf pool10 1 #[.nestMembers #[98]] #[{ accessFlags := 2, nameIndex := 7, descriptorIndex := 8, attributes := #[] }, { accessFlags := 9, nameIndex := 198, descriptorIndex := 335, attributes := #[] }] 49 4 #[] #[{ accessFlags := 25, nameIndex := 354, descriptorIndex := 339, attributes := #[] }, { accessFlags := 25, nameIndex := 358, descriptorIndex := 339, attributes := #[] }, { accessFlags := 25, nameIndex := 361, descriptorIndex := 339, attributes := #[] }, { accessFlags := 26, nameIndex := 364, descriptorIndex := 339, attributes := #[] }, { accessFlags := 26, nameIndex := 365, descriptorIndex := 339, attributes := #[] }, { accessFlags := 26, nameIndex := 172, descriptorIndex := 173, attributes := #[] }, { accessFlags := 26, nameIndex := 176, descriptorIndex := 173, attributes := #[] }, { accessFlags := 8, nameIndex := 344, descriptorIndex := 339, attributes := #[] }, { accessFlags := 8, nameIndex := 338, descriptorIndex := 339, attributes := #[] }, { accessFlags := 4120, nameIndex := 245, descriptorIndex := 246, attributes := #[] }])
  fields := #[{ name := "E", type := .double, accessFlags := 25, slot := 0, constantValue := 0 }, { name := "PI", type := .double, accessFlags := 25, slot := 1, constantValue := 0 }, { name := "TAU", type := .double, accessFlags := 25, slot := 2, constantValue := 0 }, { name := "DEGREES_TO_RADIANS", type := .double, accessFlags := 26, slot := 3, constantValue := 0 }, { name := "RADIANS_TO_DEGREES", type := .double, accessFlags := 26, slot := 4, constantValue := 0 }, { name := "negativeZeroFloatBits", type := .long, accessFlags := 26, slot := 5, constantValue := 0 }, { name := "negativeZeroDoubleBits", type := .long, accessFlags := 26, slot := 6, constantValue := 0 }, { name := "twoToTheDoubleScaleUp", type := .double, accessFlags := 8, slot := 7, constantValue := 0 }, { name := "twoToTheDoubleScaleDown", type := .double, accessFlags := 8, slot := 8, constantValue := 0 }, { name := "$assertionsDisabled", type := .boolean, accessFlags := 4120, slot := 9, constantValue := 0 }]
  methods := #[k10m0, k10m1]
  instanceTypes := #[]
  staticTypes := #[.double, .double, .double, .double, .double, .long, .long, .double, .double, .boolean]
  resolved := Array.replicate 460 none
  statics := none }

def pool11 : Array CpInfo := pool [(1, u "java/lang/Cloneable"), (0, .class_ 1), (0, u "java/lang/Object"), (0, .class_ 3)] 3

/-- java/lang/Cloneable -/
def k11 : Class := { plain "java/lang/Cloneable" (some 0) with
  accessFlags := 1537
  interfaces := #[]
  cf := some (fileOf pool11 2 #[] #[] 1537 4 #[] #[])
  fields := #[]
  methods := #[]
  instanceTypes := #[]
  staticTypes := #[]
  resolved := Array.replicate 8 none
  statics := none }

/-- the primitive byte -/
def k12 : Class := { plain "byte" none with kind := .primitive 'B', accessFlags := 0x411 }
/-- [B -/
def k13 : Class := { plain "[B" (some 0) with kind := .array 12 .byte, interfaces := #[11, 3], accessFlags := 1041 }

/-- the primitive int -/
def k14 : Class := { plain "int" none with kind := .primitive 'I', accessFlags := 0x411 }
/-- [I -/
def k15 : Class := { plain "[I" (some 0) with kind := .array 14 .int, interfaces := #[11, 3], accessFlags := 1041 }

def heap : Heap := #[]
def classes : Array Class := #[k0, k1, k2, k3, k4, k5, k6, k7, k8, k9, k10, k11, k12, k13, k14, k15]
def interned : List (Array UInt16 × Addr) := []
def slotsUsed : Nat := 0
def theMethod : MethodId := ⟨1, 2⟩
def args0 : Array Value := #[.long 5000, .int 3]
def aboutOver (below : List Frame) : State where
  vm := { classes := classes, interned := interned.toArray }
  heap := heap
  slotsUsed := slotsUsed
  threads := #[{ frames := .invoking theMethod args0 :: below }]
def below0 : List Frame := [.native { method := ⟨0, 0⟩, args := #[] }]
def about1 : State := aboutOver below0
def p0 : Program := .bare "" "" ""
def e0 : Env := launch0.env 0 0 0
theorem w_frames : about1.frames = Frame.invoking theMethod args0 :: below0 := rfl
set_option maxRecDepth 65536 in
theorem w_args : argsFit about1.vm theMethod args0 = true := by decide +kernel
set_option maxRecDepth 65536 in
theorem w_heap : heapFits about1 = true := by decide +kernel
set_option maxRecDepth 65536 in
theorem w_runnable : about1.curStatus? = some .runnable := by decide +kernel
set_option maxRecDepth 65536 in
theorem w_alone : about1.alone = true := by decide +kernel
set_option maxRecDepth 65536 in
theorem w_named : about1.methodNamed? x = some theMethod := by decide +kernel
set_option maxRecDepth 65536 in
theorem w_hears : about1.hears theMethod below0 = true := by decide +kernel
set_option maxRecDepth 65536 in
theorem w_ripe : about1.ripe theMethod args0 below0 = true := by decide +kernel
theorem w_running : about1.status = .running := rfl
set_option maxRecDepth 65536 in
theorem w_room : about1.hasRoom e0.platform room_1 = true :=
  launch0.hasRoom_least _ room_1 (by decide +kernel) (by decide +kernel) (by decide +kernel) (by decide +kernel) (by decide +kernel) (by decide +kernel)
theorem allAtoms_all (ts : List Jvm.Cond) (a : Array Jvm.Value) (st : Jvm.State) : (allAtoms ts).before a st = ts.all (fun c => c.before a st) := by
  induction ts with
  | nil => rfl
  | cons c t ih =>
    show (Jvm.Cond.and c (allAtoms t)).before a st = _
    rw [Jvm.Cond.before_and, ih, List.all_cons]
def words1 : List Jvm.Cond := Jvm.Cond.code x code maxLocals ret :: tables_1
/-- a 'code' word, met by the world's own term for the bytes: nothing is compared byte by byte -/
theorem code_word {y : MethodName} {bytes : ByteArray} {mx : Nat} {rt : Option FieldType} {a : Array Value} {s : State} {m : MethodId} {meth : Method} {c : Code} (h1 : s.methodNamed? y = some m) (h2 : s.vm.method? m = some meth) (h3 : meth.code = some c) (h4 : c.code = bytes)
    (h5 : (c.maxLocals == mx && c.exceptionTable.isEmpty && decide (c.maxStack ≤ mostOperands) && decide (meth.sig.returnType = rt) && !meth.locks && decide (parseMethodDescriptor y.desc = some meth.sig)) = true) : (Jvm.Cond.code y bytes mx rt).before a s = true := by
  simp only [Bool.and_eq_true, beq_iff_eq, Bool.not_eq_true', decide_eq_true_eq] at h5
  obtain ⟨⟨⟨⟨⟨g1, g2⟩, g3⟩, g4⟩, g5⟩, g6⟩ := h5
  simp [Cond.before, Cond.holds, Cond.value, h1, h2, h3, h4, g1, g2, g3, g4, g5, g6]
def isCode : Jvm.Cond → Bool
  | .code _ _ _ _ => true
  | _ => false
theorem all_split {L : List Jvm.Cond} {P : Jvm.Cond → Bool} (h1 : L.all (fun c => isCode c || P c) = true) (h2 : ∀ c ∈ L.filter isCode, P c = true) : L.all P = true := by
  refine List.all_eq_true.mpr fun c hc => ?_
  have h := List.all_eq_true.mp h1 c hc
  rcases Bool.eq_false_or_eq_true (isCode c) with hi | hi
  · exact h2 c (List.mem_filter.mpr ⟨hc, hi⟩)
  · simpa [hi] using h
set_option maxRecDepth 65536 in
theorem w_c0 : (Jvm.Cond.code x code maxLocals ret).before args0 about1 = true := code_word (m := ⟨1, 2⟩) (meth := k1m2) (c := k1c2) (by decide +kernel) rfl rfl rfl (by decide +kernel)
set_option maxRecDepth 65536 in
theorem w_c1 : (Jvm.Cond.code ({ cls := "com/example/apportion/apportion/IdleTimeline", name := "runLength", desc := "(J)C" } : Jvm.MethodName) prog_99_method_42_code (5 : Nat) (Option.some Jvm.ClassFile.FieldType.char)).before args0 about1 = true := code_word (m := ⟨2, 0⟩) (meth := k2m0) (c := k2c0) (by decide +kernel) rfl rfl rfl (by decide +kernel)
set_option maxRecDepth 65536 in
theorem w_c2 : (Jvm.Cond.code ({ cls := "java/lang/Long", name := "numberOfLeadingZeros", desc := "(J)I" } : Jvm.MethodName) jdk_35_method_48_code (3 : Nat) (Option.some Jvm.ClassFile.FieldType.int)).before args0 about1 = true := code_word (m := ⟨8, 0⟩) (meth := k8m0) (c := k8c0) (by decide +kernel) rfl rfl rfl (by decide +kernel)
set_option maxRecDepth 65536 in
theorem w_c3 : (Jvm.Cond.code ({ cls := "java/lang/Integer", name := "numberOfLeadingZeros", desc := "(I)I" } : Jvm.MethodName) jdk_33_method_47_code (2 : Nat) (Option.some Jvm.ClassFile.FieldType.int)).before args0 about1 = true := code_word (m := ⟨9, 0⟩) (meth := k9m0) (c := k9c0) (by decide +kernel) rfl rfl rfl (by decide +kernel)
set_option maxRecDepth 65536 in
theorem w_c4 : (Jvm.Cond.code ({ cls := "java/lang/Math", name := "max", desc := "(II)I" } : Jvm.MethodName) jdk_29_method_65_code (2 : Nat) (Option.some Jvm.ClassFile.FieldType.int)).before args0 about1 = true := code_word (m := ⟨10, 1⟩) (meth := k10m1) (c := k10c1) (by decide +kernel) rfl rfl rfl (by decide +kernel)
set_option maxRecDepth 65536 in
theorem w_c5 : (Jvm.Cond.code ({ cls := "com/example/apportion/apportion/IdleTimelineRunLengthPinLaw", name := "val", desc := "(I)J" } : Jvm.MethodName) method_2_code (4 : Nat) (Option.some Jvm.ClassFile.FieldType.long)).before args0 about1 = true := code_word (m := ⟨1, 1⟩) (meth := k1m1) (c := k1c1) (by decide +kernel) rfl rfl rfl (by decide +kernel)
def codes1 : List Jvm.Cond := [Jvm.Cond.code x code maxLocals ret, Jvm.Cond.code ({ cls := "com/example/apportion/apportion/IdleTimeline", name := "runLength", desc := "(J)C" } : Jvm.MethodName) prog_99_method_42_code (5 : Nat) (Option.some Jvm.ClassFile.FieldType.char), Jvm.Cond.code ({ cls := "java/lang/Long", name := "numberOfLeadingZeros", desc := "(J)I" } : Jvm.MethodName) jdk_35_method_48_code (3 : Nat) (Option.some Jvm.ClassFile.FieldType.int), Jvm.Cond.code ({ cls := "java/lang/Integer", name := "numberOfLeadingZeros", desc := "(I)I" } : Jvm.MethodName) jdk_33_method_47_code (2 : Nat) (Option.some Jvm.ClassFile.FieldType.int), Jvm.Cond.code ({ cls := "java/lang/Math", name := "max", desc := "(II)I" } : Jvm.MethodName) jdk_29_method_65_code (2 : Nat) (Option.some Jvm.ClassFile.FieldType.int), Jvm.Cond.code ({ cls := "com/example/apportion/apportion/IdleTimelineRunLengthPinLaw", name := "val", desc := "(I)J" } : Jvm.MethodName) method_2_code (4 : Nat) (Option.some Jvm.ClassFile.FieldType.long)]
set_option maxRecDepth 65536 in
theorem codes_eq : words1.filter isCode = codes1 := rfl
theorem w_codes : ∀ c ∈ words1.filter isCode, c.before args0 about1 = true := by
  rw [codes_eq]
  intro c hc
  simp only [codes1, List.mem_cons, List.not_mem_nil, or_false] at hc
  rcases hc with rfl | rfl | rfl | rfl | rfl | rfl
  · exact w_c0
  · exact w_c1
  · exact w_c2
  · exact w_c3
  · exact w_c4
  · exact w_c5
set_option maxRecDepth 65536 in
theorem w_t1 : (words1.take 24).all (fun c => isCode c || c.before args0 about1) = true := by decide +kernel
set_option maxRecDepth 65536 in
theorem w_t2 : (words1.drop 24).all (fun c => isCode c || c.before args0 about1) = true := by decide +kernel
theorem w_tables : (allAtoms (Jvm.Cond.code x code maxLocals ret :: tables_1)).before args0 about1 = true := by
  rw [allAtoms_all]
  show words1.all (fun c => c.before args0 about1) = true
  refine all_split ?_ w_codes
  rw [← List.take_append_drop 24 words1, List.all_append, w_t1, w_t2]
  rfl
set_option maxRecDepth 65536 in
theorem w_case : (Jvm.Cond.and given_1 narrow_1).before args0 about1 = true := by decide +kernel
theorem w_applies : (headSpec (Jvm.Cond.code x code maxLocals ret :: tables_1) room_1).applies x e0.platform about1 = true :=
  (Spec.applies_iff w_frames).mpr ⟨w_running, w_runnable, w_alone, w_named, w_hears, w_ripe, w_room, w_tables⟩
theorem atStart : AtStart classFile x code maxLocals ret World_1 tables_1 room_1 Calls_1 rest_1 Pre_1 launch0 p0 e0 about1 theMethod args0 below0 :=
  ⟨lists_1, trivial, launch0.admits_env _ _ _, launch0.least_env, fairChoices_fair.cas, fairChoices_fair.clock, w_frames, w_args, w_heap, w_applies, trivial, trivial, w_case⟩
end start1
theorem witness_1 : WitnessClaimed_1 := ⟨start1.p0, start1.e0, start1.about1, start1.theMethod, start1.args0, start1.below0, start1.atStart⟩
end Jvm.Pilot.@@N@@

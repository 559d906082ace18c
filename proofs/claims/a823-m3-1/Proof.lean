import JvmDerived
import JvmDerived.Pilot.@@N@@Statement
import JvmDerived.Pilot.@@N@@Code
set_option linter.unusedVariables false
set_option linter.unusedSimpArgs false
set_option maxRecDepth 65536
set_option maxHeartbeats 2000000

namespace Jvm.OwnWP
open Sem ClassFile Op Lib Jvm.Stand Jvm.Free Jvm.LawKit Jvm.RoadKit
/-- Java's shifts and its comparison of longs -/
def ushr (x y : Int32) : Int32 := (x.toUInt32 >>> (y &&& 31).toUInt32).toInt32
def ushrL (x : Int64) (y : Int32) : Int64 := (x.toUInt64 >>> (y &&& 0x3f).toInt64.toUInt64).toInt64
def cmpL (x y : Int64) : Int32 := if x > y then 1 else if x = y then 0 else -1
/-! A body: its class, its name, bytes, max_locals, what it returns, its room. -/
abbrev Bod : Type := String × String × ByteArray × Nat × Option FieldType × Room
abbrev Bod.own (B : Bod) : String := B.1
abbrev Bod.mname (B : Bod) : String := B.2.1
abbrev Bod.bytes (B : Bod) : ByteArray := B.2.2.1
abbrev Bod.maxL (B : Bod) : Nat := B.2.2.2.1
abbrev Bod.ret (B : Bod) : Option FieldType := B.2.2.2.2.1
abbrev Bod.room (B : Bod) : Room := B.2.2.2.2.2
def Ctx (p : Program) (s : State) (m : MethodId) (meth : Method) (c : Code) (Z : State) (B : Bod) : Prop :=
  p.tables.exec = Jvm.exec ∧ Z.Warmed39 s.vm ∧ s.vm.findClass B.own = some m.cls ∧ c.code = B.bytes ∧ c.maxLocals = B.maxL ∧ meth.sig.returnType = B.ret ∧ meth.locks = false ∧ meth.name = B.mname
/-- From pc, with these locals and this stack, over the heap h, the body returns, and Q says of what it returns and of the heap. -/
def WP (l : Launch) (B : Bod) (Z : State) (n0 : Nat) (Q : Option Value → Heap → Prop) (h : Heap) (cs sl pc : Nat) (ls : Array Slot) (st : List Value) : Prop :=
  ∀ (p : Program) (e : Env) (s : State) (m : MethodId) (args : Array Value) (below : List Frame) (meth : Method) (c : Code) (T : State) (L : List Loc),
    Ctx p s m meth c Z B → Stand p l e B.room s m args below meth c T L cs sl → T.heap = h → Fr n0 L → n0 ≤ h.size →
    ∃ (U : State) (v : Option Value) (L' : List Loc), Steps p.tables e below (T.setTop (mkF m pc ls st)) U ∧ U.status = .running ∧ Ended U below (.returned v) ∧ Q v U.heap ∧ Fr n0 L' ∧ n0 ≤ U.heap.size ∧ FrameEnd s (.returned v) U L' B.room.cells B.room.slots
/-- The contract of a body: called with the arguments as over the heap h0. -/
def OMet (l : Launch) (y : MethodName) (B : Bod) (Z : State) (n0 : Nat) (as : Array Value) (h0 : Heap) (Q : Option Value → Heap → Prop) : Prop :=
  n0 ≤ h0.size → ∀ ws, MetFree l y (head1 (Cond.code y B.bytes B.maxL B.ret :: ws) B.room) (fun a U => a = as ∧ Z.Warmed39 U.vm ∧ U.heap = h0) (fun _ _ _ _ _ => True) (fun _ U o U' => ∃ v L, o = .returned v ∧ (Q v U'.heap ∧ Fr n0 L ∧ n0 ≤ U'.heap.size) ∧ FrameEnd U o U' L B.room.cells B.room.slots)
section W
variable {l : Launch} {B : Bod} {Z : State} {n0 : Nat} {Q : Option Value → Heap → Prop} {h : Heap} {cs sl pc pc' : Nat} {ls ls' : Array Slot} {st rest : List Value} {a0 : Array Value}
theorem OMet.of_wp {y : MethodName} {as : Array Value} {ls0 : Array Slot} (hpl : plainFor y = true) (h1 : y.cls = B.own) (h2 : y.name = B.mname) (hef : ∀ m, entryFrame m as B.maxL = mkF m 0 ls0 []) (H : WP l B Z n0 Q h 0 0 0 ls0 []) : OMet l y B Z n0 as h Q := by
  intro hn ws
  refine MetFree.of_bodySF hpl hisR ?_
  intro p e s m args below meth c s₁ Bd hml0 hP hK
  obtain ⟨rfl, hZ, hh⟩ := hP
  have hnm := (name_of_methodNamed Bd.named Bd.method).1
  have hown : s.vm.findClass y.cls = some m.cls := findClass_of_methodNamed Bd.named
  have X0 := Stand.of_body Bd
  have e0 : s₁.heap = h := by rw [← hh, Bd.state]; rfl
  obtain ⟨U, v, L', a1, a2, a3, a4, a5, a6, a7⟩ := H p e s m args below meth c s₁ [] ⟨Bd.exec, hZ, h1 ▸ hown, Bd.bytes, hml0, Bd.returns, Bd.notSynchronized, hnm.trans h2⟩ X0 e0 (Fr.nil n0) hn
  exact ⟨U, _, castTop (hef m) a1, a2, a3, v, L', rfl, ⟨a4, a5, a6⟩, a7⟩
theorem WP.mono {Q' : Option Value → Heap → Prop} (H : WP l B Z n0 Q' h cs sl pc ls st) (hq : ∀ v h', Q' v h' → Q v h') : WP l B Z n0 Q h cs sl pc ls st := by
  intro p e s m args below meth c T L C X hT N hn
  obtain ⟨U, v, L', a1, a2, a3, a4, r⟩ := H p e s m args below meth c T L C X hT N hn
  exact ⟨U, v, L', a1, a2, a3, hq _ _ a4, r⟩
/-- a plain step: the state stays, the frame moves -/
theorem WP.step {pc' : Nat} {ls' : Array Slot} {st' : List Value}
    (S : ∀ (p : Program) (e : Env) (s : State) (m : MethodId) (args : Array Value) (below : List Frame) (meth : Method) (c : Code) (T : State) (L : List Loc), Ctx p s m meth c Z B → Stand p l e B.room s m args below meth c T L cs sl → T.heap = h → ∀ target, Steps p.tables e below (T.setTop (mkF m pc' ls' st')) target → Steps p.tables e below (T.setTop (mkF m pc ls st)) target)
    (H : WP l B Z n0 Q h cs sl pc' ls' st') : WP l B Z n0 Q h cs sl pc ls st := by
  intro p e s m args below meth c T L C X hT N hn
  obtain ⟨U, v, L', a1, r⟩ := H p e s m args below meth c T L C X hT N hn
  exact ⟨U, v, L', S p e s m args below meth c T L C X hT _ a1, r⟩
/-- a step to another state -/
theorem WP.stepT {pc' cs' sl' : Nat} {ls' : Array Slot} {st' : List Value} {P : Heap → Prop}
    (S : ∀ (p : Program) (e : Env) (s : State) (m : MethodId) (args : Array Value) (below : List Frame) (meth : Method) (c : Code) (T : State) (L : List Loc), Ctx p s m meth c Z B → Stand p l e B.room s m args below meth c T L cs sl → T.heap = h → Fr n0 L → n0 ≤ h.size →
      ∃ (T' : State) (h' : Heap) (L' : List Loc), Stand p l e B.room s m args below meth c T' L' cs' sl' ∧ T'.heap = h' ∧ Fr n0 L' ∧ n0 ≤ h'.size ∧ P h' ∧ ∀ target, Steps p.tables e below (T'.setTop (mkF m pc' ls' st')) target → Steps p.tables e below (T.setTop (mkF m pc ls st)) target)
    (H : ∀ h', P h' → WP l B Z n0 Q h' cs' sl' pc' ls' st') : WP l B Z n0 Q h cs sl pc ls st := by
  intro p e s m args below meth c T L C X hT N hn
  obtain ⟨T', h', L1, X', e', N', n', hp, st⟩ := S p e s m args below meth c T L C X hT N hn
  obtain ⟨U, v, L', a1, r⟩ := H h' hp p e s m args below meth c T' L1 C X' e' N' n'
  exact ⟨U, v, L', st _ a1, r⟩
/-! loads, stores, constants -/
theorem WP.iloadN {k : Fin 4} {v : Int32} (hd : decode B.bytes pc = .ok (.iload_n k, 1)) (hl : ls[k.val]? = some (.val (.int v))) (hp : pc + 1 = pc') (H : WP l B Z n0 Q h cs sl pc' ls (.int v :: st)) : WP l B Z n0 Q h cs sl pc ls st := by
  subst hp; exact WP.step (fun p e s m args below meth c T L C X hT target k => XS.iloadN X.here C.1 rfl (hb C.2.2.2.1 hd) hl k) H
theorem WP.iload {k : Nat} {v : Int32} (hd : decode B.bytes pc = .ok (.iload k, 2)) (hl : ls[k]? = some (.val (.int v))) (hp : pc + 2 = pc') (H : WP l B Z n0 Q h cs sl pc' ls (.int v :: st)) : WP l B Z n0 Q h cs sl pc ls st := by
  subst hp; exact WP.step (fun p e s m args below meth c T L C X hT target k => XS.iload X.here C.1 rfl (hb C.2.2.2.1 hd) hl k) H
theorem WP.lloadN {k : Fin 4} {v : Int64} (hd : decode B.bytes pc = .ok (.lload_n k, 1)) (hl : ls[k.val]? = some (.val (.long v))) (hp : pc + 1 = pc') (H : WP l B Z n0 Q h cs sl pc' ls (.long v :: st)) : WP l B Z n0 Q h cs sl pc ls st := by
  subst hp; exact WP.step (fun p e s m args below meth c T L C X hT target k => XS.lloadN X.here C.1 rfl (hb C.2.2.2.1 hd) hl k) H
theorem WP.lload {k : Nat} {v : Int64} (hd : decode B.bytes pc = .ok (.lload k, 2)) (hl : ls[k]? = some (.val (.long v))) (hp : pc + 2 = pc') (H : WP l B Z n0 Q h cs sl pc' ls (.long v :: st)) : WP l B Z n0 Q h cs sl pc ls st := by
  subst hp; exact WP.step (fun p e s m args below meth c T L C X hT target k => XS.lload X.here C.1 rfl (hb C.2.2.2.1 hd) hl k) H
theorem WP.aloadN {k : Fin 4} {v : Value} (hd : decode B.bytes pc = .ok (.aload_n k, 1)) (hl : ls[k.val]? = some (.val v)) (hv : v.isRef = true) (hp : pc + 1 = pc') (H : WP l B Z n0 Q h cs sl pc' ls (v :: st)) : WP l B Z n0 Q h cs sl pc ls st := by
  subst hp; exact WP.step (fun p e s m args below meth c T L C X hT target k => XS.aloadN X.here C.1 rfl (hb C.2.2.2.1 hd) hl hv k) H
theorem WP.aload {k : Nat} {v : Value} (hd : decode B.bytes pc = .ok (.aload k, 2)) (hl : ls[k]? = some (.val v)) (hv : v.isRef = true) (hp : pc + 2 = pc') (H : WP l B Z n0 Q h cs sl pc' ls (v :: st)) : WP l B Z n0 Q h cs sl pc ls st := by
  subst hp; exact WP.step (fun p e s m args below meth c T L C X hT target k => XS.aload X.here C.1 rfl (hb C.2.2.2.1 hd) hl hv k) H
theorem WP.istoreN {k : Fin 4} {x : Int32} (hd : decode B.bytes pc = .ok (.istore_n k, 1)) (hp : pc + 1 = pc') (hl : storeLocals ls k.val (.int x) = some ls') (H : WP l B Z n0 Q h cs sl pc' ls' st) : WP l B Z n0 Q h cs sl pc ls (.int x :: st) := by
  subst hp; exact WP.step (fun p e s m args below meth c T L C X hT target k => XS.istoreN X.here C.1 rfl (hb C.2.2.2.1 hd) rfl hl k) H
theorem WP.istore {k : Nat} {x : Int32} (hd : decode B.bytes pc = .ok (.istore k, 2)) (hp : pc + 2 = pc') (hl : storeLocals ls k (.int x) = some ls') (H : WP l B Z n0 Q h cs sl pc' ls' st) : WP l B Z n0 Q h cs sl pc ls (.int x :: st) := by
  subst hp; exact WP.step (fun p e s m args below meth c T L C X hT target k => XS.istore X.here C.1 rfl (hb C.2.2.2.1 hd) rfl hl k) H
theorem WP.lstoreN {k : Fin 4} {x : Int64} (hd : decode B.bytes pc = .ok (.lstore_n k, 1)) (hp : pc + 1 = pc') (hl : storeLocals ls k.val (.long x) = some ls') (H : WP l B Z n0 Q h cs sl pc' ls' st) : WP l B Z n0 Q h cs sl pc ls (.long x :: st) := by
  subst hp; exact WP.step (fun p e s m args below meth c T L C X hT target k => XS.lstoreN X.here C.1 rfl (hb C.2.2.2.1 hd) rfl hl k) H
theorem WP.lstore {k : Nat} {x : Int64} (hd : decode B.bytes pc = .ok (.lstore k, 2)) (hp : pc + 2 = pc') (hl : storeLocals ls k (.long x) = some ls') (H : WP l B Z n0 Q h cs sl pc' ls' st) : WP l B Z n0 Q h cs sl pc ls (.long x :: st) := by
  subst hp; exact WP.step (fun p e s m args below meth c T L C X hT target k => XS.lstore X.here C.1 rfl (hb C.2.2.2.1 hd) rfl hl k) H
theorem WP.astoreN {k : Fin 4} {x : Value} (hd : decode B.bytes pc = .ok (.astore_n k, 1)) (hp : pc + 1 = pc') (hv : x.isRef = true) (hl : storeLocals ls k.val x = some ls') (H : WP l B Z n0 Q h cs sl pc' ls' st) : WP l B Z n0 Q h cs sl pc ls (x :: st) := by
  subst hp; exact WP.step (fun p e s m args below meth c T L C X hT target k => XS.astoreN X.here C.1 rfl (hb C.2.2.2.1 hd) rfl hv hl k) H
theorem WP.astore {k : Nat} {x : Value} (hd : decode B.bytes pc = .ok (.astore k, 2)) (hp : pc + 2 = pc') (hv : x.isRef = true) (hl : storeLocals ls k x = some ls') (H : WP l B Z n0 Q h cs sl pc' ls' st) : WP l B Z n0 Q h cs sl pc ls (x :: st) := by
  subst hp; exact WP.step (fun p e s m args below meth c T L C X hT target k => XS.astore X.here C.1 rfl (hb C.2.2.2.1 hd) rfl hv hl k) H
theorem WP.iconst {i : Int} {z : Int32} (hd : decode B.bytes pc = .ok (.iconst i, 1)) (hz : Int32.ofInt i = z) (hp : pc + 1 = pc') (H : WP l B Z n0 Q h cs sl pc' ls (.int z :: st)) : WP l B Z n0 Q h cs sl pc ls st := by
  subst hp hz; exact WP.step (fun p e s m args below meth c T L C X hT target k => XS.iconst X.here C.1 rfl (hb C.2.2.2.1 hd) k) H
theorem WP.bipush {i : Int} {z : Int32} (hd : decode B.bytes pc = .ok (.bipush i, 2)) (hz : (Int8.ofInt i).toInt32 = z) (hp : pc + 2 = pc') (H : WP l B Z n0 Q h cs sl pc' ls (.int z :: st)) : WP l B Z n0 Q h cs sl pc ls st := by
  subst hp hz; exact WP.step (fun p e s m args below meth c T L C X hT target k => XS.bipush X.here C.1 rfl (hb C.2.2.2.1 hd) k) H
theorem WP.sipush {i : Int} {z : Int32} (hd : decode B.bytes pc = .ok (.sipush i, 3)) (hz : (Int16.ofInt i).toInt32 = z) (hp : pc + 3 = pc') (H : WP l B Z n0 Q h cs sl pc' ls (.int z :: st)) : WP l B Z n0 Q h cs sl pc ls st := by
  subst hp hz; exact WP.step (fun p e s m args below meth c T L C X hT target k => XS.sipush X.here C.1 rfl (hb C.2.2.2.1 hd) k) H
theorem WP.lconst0 (hd : decode B.bytes pc = .ok (.lconst 0, 1)) (hp : pc + 1 = pc') (H : WP l B Z n0 Q h cs sl pc' ls (.long 0 :: st)) : WP l B Z n0 Q h cs sl pc ls st := by
  subst hp; exact WP.step (fun p e s m args below meth c T L C X hT target k => XS.lconst X.here C.1 rfl (hb C.2.2.2.1 hd) k) H
theorem WP.lconst1 (hd : decode B.bytes pc = .ok (.lconst 1, 1)) (hp : pc + 1 = pc') (H : WP l B Z n0 Q h cs sl pc' ls (.long 1 :: st)) : WP l B Z n0 Q h cs sl pc ls st := by
  subst hp; exact WP.step (fun p e s m args below meth c T L C X hT target k => XS.lconst X.here C.1 rfl (hb C.2.2.2.1 hd) k) H
theorem WP.aconstNull (hd : decode B.bytes pc = .ok (.aconst_null, 1)) (hp : pc + 1 = pc') (H : WP l B Z n0 Q h cs sl pc' ls (.null :: st)) : WP l B Z n0 Q h cs sl pc ls st := by
  subst hp; exact WP.step (fun p e s m args below meth c T L C X hT target k => XS.aconstNull X.here C.1 rfl (hb C.2.2.2.1 hd) k) H
theorem WP.ldcI {i : Nat} {z : Int32} (hd : decode B.bytes pc = .ok (.ldc i, 2)) (w : (Cond.constant B.own i z).before a0 Z = true) (hp : pc + 2 = pc') (H : WP l B Z n0 Q h cs sl pc' ls (.int z :: st)) : WP l B Z n0 Q h cs sl pc ls st := by
  subst hp; exact WP.step (fun p e s m args below meth c T L C X hT target k => X.ldcInt C.1 C.2.2.1 (mvT C.2.1 w) (g := mkF m pc ls st) rfl (hb C.2.2.2.1 hd) _ k) H
theorem WP.ldcwI {i : Nat} {z : Int32} (hd : decode B.bytes pc = .ok (.ldc_w i, 3)) (w : (Cond.constant B.own i z).before a0 Z = true) (hp : pc + 3 = pc') (H : WP l B Z n0 Q h cs sl pc' ls (.int z :: st)) : WP l B Z n0 Q h cs sl pc ls st := by
  subst hp; exact WP.step (fun p e s m args below meth c T L C X hT target k => X.ldcwInt C.1 C.2.2.1 (mvT C.2.1 w) (g := mkF m pc ls st) rfl (hb C.2.2.2.1 hd) _ k) H
theorem WP.ldc2J {i : Nat} {z : Int64} (hd : decode B.bytes pc = .ok (.ldc2_w i, 3)) (w : (Cond.constantLong B.own i z).before a0 Z = true) (hp : pc + 3 = pc') (H : WP l B Z n0 Q h cs sl pc' ls (.long z :: st)) : WP l B Z n0 Q h cs sl pc ls st := by
  subst hp; exact WP.step (fun p e s m args below meth c T L C X hT target k => X.ldc2Long C.1 C.2.2.1 (mvT C.2.1 w) (g := mkF m pc ls st) rfl (hb C.2.2.2.1 hd) _ k) H
theorem WP.iinc {k : Nat} {cst : Int} {x y : Int32} (hd : decode B.bytes pc = .ok (.iinc k cst, 3)) (hp : pc + 3 = pc') (hl : ls[k]? = some (.val (.int x))) (hy : x + Int32.ofInt cst = y) (hl' : storeLocals ls k (.int y) = some ls') (H : WP l B Z n0 Q h cs sl pc' ls' st) : WP l B Z n0 Q h cs sl pc ls st := by
  subst hp hy; exact WP.step (fun p e s m args below meth c T L C X hT target k => XS.iinc X.here C.1 rfl (hb C.2.2.2.1 hd) hl hl' k) H
/-! the stack -/
theorem WP.dup {x : Value} (hd : decode B.bytes pc = .ok (.dup, 1)) (hc : x.category = 1) (hp : pc + 1 = pc') (H : WP l B Z n0 Q h cs sl pc' ls (x :: x :: st)) : WP l B Z n0 Q h cs sl pc ls (x :: st) := by
  subst hp; exact WP.step (fun p e s m args below meth c T L C X hT target k => XS.dup X.here C.1 rfl (hb C.2.2.2.1 hd) rfl hc k) H
theorem WP.pop {x : Value} (hd : decode B.bytes pc = .ok (.pop, 1)) (hc : x.category = 1) (hp : pc + 1 = pc') (H : WP l B Z n0 Q h cs sl pc' ls st) : WP l B Z n0 Q h cs sl pc ls (x :: st) := by
  subst hp; exact WP.step (fun p e s m args below meth c T L C X hT target k => XS.pop X.here C.1 rfl (hb C.2.2.2.1 hd) rfl hc k) H
theorem WP.dupX1 {x y : Value} (hd : decode B.bytes pc = .ok (.dup_x1, 1)) (hc : x.category = 1) (hc' : y.category = 1) (hp : pc + 1 = pc') (H : WP l B Z n0 Q h cs sl pc' ls (x :: y :: x :: st)) : WP l B Z n0 Q h cs sl pc ls (x :: y :: st) := by
  subst hp; exact WP.step (fun p e s m args below meth c T L C X hT target k => XS.dupX1 X.here C.1 rfl (hb C.2.2.2.1 hd) rfl hc hc' k) H
theorem WP.dup2 {x y : Value} (hd : decode B.bytes pc = .ok (.dup2, 1)) (hc : x.category = 1) (hc' : y.category = 1) (hp : pc + 1 = pc') (H : WP l B Z n0 Q h cs sl pc' ls (x :: y :: x :: y :: st)) : WP l B Z n0 Q h cs sl pc ls (x :: y :: st) := by
  subst hp; exact WP.step (fun p e s m args below meth c T L C X hT target k => Jvm.Free.XT.dup2 X.here C.1 rfl (hb C.2.2.2.1 hd) rfl hc hc' k) H
/-! arithmetic -/
theorem WP.iadd {x : Int32} {y : Int32} (hd : decode B.bytes pc = .ok (.iadd, 1)) (hp : pc + 1 = pc') (H : WP l B Z n0 Q h cs sl pc' ls (.int (x + y) :: st)) : WP l B Z n0 Q h cs sl pc ls (.int y :: .int x :: st) := by
  subst hp; exact WP.step (fun p e s m args below meth c T L C X hT target k => XS.iadd X.here C.1 rfl (hb C.2.2.2.1 hd) rfl k) H
theorem WP.isub {x : Int32} {y : Int32} (hd : decode B.bytes pc = .ok (.isub, 1)) (hp : pc + 1 = pc') (H : WP l B Z n0 Q h cs sl pc' ls (.int (x - y) :: st)) : WP l B Z n0 Q h cs sl pc ls (.int y :: .int x :: st) := by
  subst hp; exact WP.step (fun p e s m args below meth c T L C X hT target k => XS.isub X.here C.1 rfl (hb C.2.2.2.1 hd) rfl k) H
theorem WP.imul {x : Int32} {y : Int32} (hd : decode B.bytes pc = .ok (.imul, 1)) (hp : pc + 1 = pc') (H : WP l B Z n0 Q h cs sl pc' ls (.int (x * y) :: st)) : WP l B Z n0 Q h cs sl pc ls (.int y :: .int x :: st) := by
  subst hp; exact WP.step (fun p e s m args below meth c T L C X hT target k => XS.imul X.here C.1 rfl (hb C.2.2.2.1 hd) rfl k) H
theorem WP.iand {x : Int32} {y : Int32} (hd : decode B.bytes pc = .ok (.iand, 1)) (hp : pc + 1 = pc') (H : WP l B Z n0 Q h cs sl pc' ls (.int (x &&& y) :: st)) : WP l B Z n0 Q h cs sl pc ls (.int y :: .int x :: st) := by
  subst hp; exact WP.step (fun p e s m args below meth c T L C X hT target k => XS.iand X.here C.1 rfl (hb C.2.2.2.1 hd) rfl k) H
theorem WP.ior {x : Int32} {y : Int32} (hd : decode B.bytes pc = .ok (.ior, 1)) (hp : pc + 1 = pc') (H : WP l B Z n0 Q h cs sl pc' ls (.int (x ||| y) :: st)) : WP l B Z n0 Q h cs sl pc ls (.int y :: .int x :: st) := by
  subst hp; exact WP.step (fun p e s m args below meth c T L C X hT target k => XS.ior X.here C.1 rfl (hb C.2.2.2.1 hd) rfl k) H
theorem WP.ixor {x : Int32} {y : Int32} (hd : decode B.bytes pc = .ok (.ixor, 1)) (hp : pc + 1 = pc') (H : WP l B Z n0 Q h cs sl pc' ls (.int (x ^^^ y) :: st)) : WP l B Z n0 Q h cs sl pc ls (.int y :: .int x :: st) := by
  subst hp; exact WP.step (fun p e s m args below meth c T L C X hT target k => XS.ixor X.here C.1 rfl (hb C.2.2.2.1 hd) rfl k) H
theorem WP.ladd {x : Int64} {y : Int64} (hd : decode B.bytes pc = .ok (.ladd, 1)) (hp : pc + 1 = pc') (H : WP l B Z n0 Q h cs sl pc' ls (.long (x + y) :: st)) : WP l B Z n0 Q h cs sl pc ls (.long y :: .long x :: st) := by
  subst hp; exact WP.step (fun p e s m args below meth c T L C X hT target k => XS.ladd X.here C.1 rfl (hb C.2.2.2.1 hd) rfl k) H
theorem WP.lsub {x : Int64} {y : Int64} (hd : decode B.bytes pc = .ok (.lsub, 1)) (hp : pc + 1 = pc') (H : WP l B Z n0 Q h cs sl pc' ls (.long (x - y) :: st)) : WP l B Z n0 Q h cs sl pc ls (.long y :: .long x :: st) := by
  subst hp; exact WP.step (fun p e s m args below meth c T L C X hT target k => XS.lsub X.here C.1 rfl (hb C.2.2.2.1 hd) rfl k) H
theorem WP.lmul {x : Int64} {y : Int64} (hd : decode B.bytes pc = .ok (.lmul, 1)) (hp : pc + 1 = pc') (H : WP l B Z n0 Q h cs sl pc' ls (.long (x * y) :: st)) : WP l B Z n0 Q h cs sl pc ls (.long y :: .long x :: st) := by
  subst hp; exact WP.step (fun p e s m args below meth c T L C X hT target k => XS.lmul X.here C.1 rfl (hb C.2.2.2.1 hd) rfl k) H
theorem WP.land {x : Int64} {y : Int64} (hd : decode B.bytes pc = .ok (.land, 1)) (hp : pc + 1 = pc') (H : WP l B Z n0 Q h cs sl pc' ls (.long (x &&& y) :: st)) : WP l B Z n0 Q h cs sl pc ls (.long y :: .long x :: st) := by
  subst hp; exact WP.step (fun p e s m args below meth c T L C X hT target k => XS.land X.here C.1 rfl (hb C.2.2.2.1 hd) rfl k) H
theorem WP.lor {x : Int64} {y : Int64} (hd : decode B.bytes pc = .ok (.lor, 1)) (hp : pc + 1 = pc') (H : WP l B Z n0 Q h cs sl pc' ls (.long (x ||| y) :: st)) : WP l B Z n0 Q h cs sl pc ls (.long y :: .long x :: st) := by
  subst hp; exact WP.step (fun p e s m args below meth c T L C X hT target k => XS.lor X.here C.1 rfl (hb C.2.2.2.1 hd) rfl k) H
theorem WP.lxor {x : Int64} {y : Int64} (hd : decode B.bytes pc = .ok (.lxor, 1)) (hp : pc + 1 = pc') (H : WP l B Z n0 Q h cs sl pc' ls (.long (x ^^^ y) :: st)) : WP l B Z n0 Q h cs sl pc ls (.long y :: .long x :: st) := by
  subst hp; exact WP.step (fun p e s m args below meth c T L C X hT target k => XS.lxor X.here C.1 rfl (hb C.2.2.2.1 hd) rfl k) H
theorem WP.ishl {x : Int32} {y : Int32} (hd : decode B.bytes pc = .ok (.ishl, 1)) (hp : pc + 1 = pc') (H : WP l B Z n0 Q h cs sl pc' ls (.int (x <<< (y &&& 31)) :: st)) : WP l B Z n0 Q h cs sl pc ls (.int y :: .int x :: st) := by
  subst hp; exact WP.step (fun p e s m args below meth c T L C X hT target k => XS.ishl X.here C.1 rfl (hb C.2.2.2.1 hd) rfl k) H
theorem WP.ishr {x : Int32} {y : Int32} (hd : decode B.bytes pc = .ok (.ishr, 1)) (hp : pc + 1 = pc') (H : WP l B Z n0 Q h cs sl pc' ls (.int (x >>> (y &&& 31)) :: st)) : WP l B Z n0 Q h cs sl pc ls (.int y :: .int x :: st) := by
  subst hp; exact WP.step (fun p e s m args below meth c T L C X hT target k => XS.ishr X.here C.1 rfl (hb C.2.2.2.1 hd) rfl k) H
theorem WP.iushr {x : Int32} {y : Int32} (hd : decode B.bytes pc = .ok (.iushr, 1)) (hp : pc + 1 = pc') (H : WP l B Z n0 Q h cs sl pc' ls (.int (ushr x y) :: st)) : WP l B Z n0 Q h cs sl pc ls (.int y :: .int x :: st) := by
  subst hp; exact WP.step (fun p e s m args below meth c T L C X hT target k => XS.iushr X.here C.1 rfl (hb C.2.2.2.1 hd) rfl k) H
theorem WP.lshl {x : Int64} {y : Int32} (hd : decode B.bytes pc = .ok (.lshl, 1)) (hp : pc + 1 = pc') (H : WP l B Z n0 Q h cs sl pc' ls (.long (x <<< (y &&& 63).toInt64) :: st)) : WP l B Z n0 Q h cs sl pc ls (.int y :: .long x :: st) := by
  subst hp; exact WP.step (fun p e s m args below meth c T L C X hT target k => XS.lshl X.here C.1 rfl (hb C.2.2.2.1 hd) rfl k) H
theorem WP.lshr {x : Int64} {y : Int32} (hd : decode B.bytes pc = .ok (.lshr, 1)) (hp : pc + 1 = pc') (H : WP l B Z n0 Q h cs sl pc' ls (.long (x >>> (y &&& 63).toInt64) :: st)) : WP l B Z n0 Q h cs sl pc ls (.int y :: .long x :: st) := by
  subst hp; exact WP.step (fun p e s m args below meth c T L C X hT target k => XS.lshr X.here C.1 rfl (hb C.2.2.2.1 hd) rfl k) H
theorem WP.lushr {x : Int64} {y : Int32} (hd : decode B.bytes pc = .ok (.lushr, 1)) (hp : pc + 1 = pc') (H : WP l B Z n0 Q h cs sl pc' ls (.long (ushrL x y) :: st)) : WP l B Z n0 Q h cs sl pc ls (.int y :: .long x :: st) := by
  subst hp; exact WP.step (fun p e s m args below meth c T L C X hT target k => XS.lushr X.here C.1 rfl (hb C.2.2.2.1 hd) rfl k) H
theorem WP.ineg {x : Int32}  (hd : decode B.bytes pc = .ok (.ineg, 1)) (hp : pc + 1 = pc') (H : WP l B Z n0 Q h cs sl pc' ls (.int (-x) :: st)) : WP l B Z n0 Q h cs sl pc ls (.int x :: st) := by
  subst hp; exact WP.step (fun p e s m args below meth c T L C X hT target k => XS.ineg X.here C.1 rfl (hb C.2.2.2.1 hd) rfl k) H
theorem WP.lneg {x : Int64}  (hd : decode B.bytes pc = .ok (.lneg, 1)) (hp : pc + 1 = pc') (H : WP l B Z n0 Q h cs sl pc' ls (.long (-x) :: st)) : WP l B Z n0 Q h cs sl pc ls (.long x :: st) := by
  subst hp; exact WP.step (fun p e s m args below meth c T L C X hT target k => XS.lneg X.here C.1 rfl (hb C.2.2.2.1 hd) rfl k) H
theorem WP.i2l {x : Int32}  (hd : decode B.bytes pc = .ok (.i2l, 1)) (hp : pc + 1 = pc') (H : WP l B Z n0 Q h cs sl pc' ls (.long x.toInt64 :: st)) : WP l B Z n0 Q h cs sl pc ls (.int x :: st) := by
  subst hp; exact WP.step (fun p e s m args below meth c T L C X hT target k => XS.i2l X.here C.1 rfl (hb C.2.2.2.1 hd) rfl k) H
theorem WP.l2i {x : Int64}  (hd : decode B.bytes pc = .ok (.l2i, 1)) (hp : pc + 1 = pc') (H : WP l B Z n0 Q h cs sl pc' ls (.int x.toInt32 :: st)) : WP l B Z n0 Q h cs sl pc ls (.long x :: st) := by
  subst hp; exact WP.step (fun p e s m args below meth c T L C X hT target k => XS.l2i X.here C.1 rfl (hb C.2.2.2.1 hd) rfl k) H
theorem WP.i2b {x : Int32}  (hd : decode B.bytes pc = .ok (.i2b, 1)) (hp : pc + 1 = pc') (H : WP l B Z n0 Q h cs sl pc' ls (.int x.toInt8.toInt32 :: st)) : WP l B Z n0 Q h cs sl pc ls (.int x :: st) := by
  subst hp; exact WP.step (fun p e s m args below meth c T L C X hT target k => XS.i2b X.here C.1 rfl (hb C.2.2.2.1 hd) rfl k) H
theorem WP.i2s {x : Int32}  (hd : decode B.bytes pc = .ok (.i2s, 1)) (hp : pc + 1 = pc') (H : WP l B Z n0 Q h cs sl pc' ls (.int x.toInt16.toInt32 :: st)) : WP l B Z n0 Q h cs sl pc ls (.int x :: st) := by
  subst hp; exact WP.step (fun p e s m args below meth c T L C X hT target k => XS.i2s X.here C.1 rfl (hb C.2.2.2.1 hd) rfl k) H
theorem WP.i2c {x : Int32}  (hd : decode B.bytes pc = .ok (.i2c, 1)) (hp : pc + 1 = pc') (H : WP l B Z n0 Q h cs sl pc' ls (.int x.toUInt32.toUInt16.toUInt32.toInt32 :: st)) : WP l B Z n0 Q h cs sl pc ls (.int x :: st) := by
  subst hp; exact WP.step (fun p e s m args below meth c T L C X hT target k => XS.i2c X.here C.1 rfl (hb C.2.2.2.1 hd) rfl k) H
/-! division (never by zero here), branches -/
theorem WP.irem {x y : Int32} (hd : decode B.bytes pc = .ok (.irem, 1)) (hy : y ≠ 0) (hp : pc + 1 = pc') (H : WP l B Z n0 Q h cs sl pc' ls (.int (x % y) :: st)) : WP l B Z n0 Q h cs sl pc ls (.int y :: .int x :: st) := by
  subst hp; exact WP.step (fun p e s m args below meth c T L C X hT target k => iremM X C.1 rfl (hb C.2.2.2.1 hd) rfl hy k) H
theorem WP.idiv {x y : Int32} (hd : decode B.bytes pc = .ok (.idiv, 1)) (hy : y ≠ 0) (hp : pc + 1 = pc') (H : WP l B Z n0 Q h cs sl pc' ls (.int (x / y) :: st)) : WP l B Z n0 Q h cs sl pc ls (.int y :: .int x :: st) := by
  subst hp; exact WP.step (fun p e s m args below meth c T L C X hT target k => XS.idiv X.here C.1 rfl (hb C.2.2.2.1 hd) rfl hy k) H
theorem WP.lrem {x y : Int64} (hd : decode B.bytes pc = .ok (.lrem, 1)) (hy : y ≠ 0) (hp : pc + 1 = pc') (H : WP l B Z n0 Q h cs sl pc' ls (.long (x - x / y * y) :: st)) : WP l B Z n0 Q h cs sl pc ls (.long y :: .long x :: st) := by
  subst hp; exact WP.step (fun p e s m args below meth c T L C X hT target k => XS.lrem X.here C.1 rfl (hb C.2.2.2.1 hd) rfl hy k) H
theorem WP.goto {o : Int} (hd : decode B.bytes pc = .ok (.goto o, 3)) (ht : (pc : Int) + o = (pc' : Int)) (H : WP l B Z n0 Q h cs sl pc' ls st) : WP l B Z n0 Q h cs sl pc ls st :=
  WP.step (fun p e s m args below meth c T L C X hT target k => XS.goto X.here C.1 rfl (pc0 := pc) (pc' := pc') rfl (hb C.2.2.2.1 hd) (by omega) (by omega) k) H
theorem own_holds (cd : ClassFile.Cond) (x y : Int32) : if_icmp.holds cd x y = match cd with | .eq => decide (x.toInt = y.toInt) | .ne => decide (x.toInt ≠ y.toInt) | .lt => decide (x.toInt < y.toInt) | .ge => decide (y.toInt ≤ x.toInt) | .gt => decide (y.toInt < x.toInt) | .le => decide (x.toInt ≤ y.toInt) := by
  have q : x = y ↔ x.toInt = y.toInt := ⟨fun h => by rw [h], Int32.toInt_inj.mp⟩
  by_cases e : x = y
  · subst e
    cases cd <;> simp [if_icmp.holds]
  · have e' : ¬ x.toInt = y.toInt := fun h => e (q.mpr h)
    cases cd <;> simp [if_icmp.holds, e, e', Int32.lt_iff_toInt_lt, Int32.le_iff_toInt_le]
theorem own_cmpL (cd : ClassFile.Cond) (x y : Int64) : if_icmp.holds cd (cmpL x y) 0 = match cd with | .eq => decide (x.toInt = y.toInt) | .ne => decide (x.toInt ≠ y.toInt) | .lt => decide (x.toInt < y.toInt) | .ge => decide (y.toInt ≤ x.toInt) | .gt => decide (y.toInt < x.toInt) | .le => decide (x.toInt ≤ y.toInt) := by
  have q : x = y ↔ x.toInt = y.toInt := ⟨fun h => by rw [h], Int64.toInt_inj.mp⟩
  rw [own_holds]
  simp only [cmpL, GT.gt, Int64.lt_iff_toInt_lt, q]
  have e1 : (1 : Int32).toInt = 1 := rfl
  have e0 : (0 : Int32).toInt = 0 := rfl
  have em : (-1 : Int32).toInt = -1 := rfl
  by_cases c1 : y.toInt < x.toInt
  · simp only [c1, if_true, e1, e0]
    cases cd <;> simp <;> omega
  · by_cases c2 : x.toInt = y.toInt
    · simp only [c2, Int.lt_irrefl, if_false, if_true, e0]
      cases cd <;> simp
    · simp only [c1, c2, if_false, em, e0]
      cases cd <;> simp <;> omega
theorem WP.icmp {cd : ClassFile.Cond} {x y : Int32} {o : Int} {tgt : Nat} (hd : decode B.bytes pc = .ok (.if_icmp cd o, 3)) (ht : (pc : Int) + o = (tgt : Int)) (hp : pc + 3 = pc') (HY : if_icmp.holds cd x y = true → WP l B Z n0 Q h cs sl tgt ls st) (HN : if_icmp.holds cd x y = false → WP l B Z n0 Q h cs sl pc' ls st) : WP l B Z n0 Q h cs sl pc ls (.int y :: .int x :: st) := by
  subst hp
  cases hc : if_icmp.holds cd x y
  · exact WP.step (fun p e s m args below meth c T L C X hT target k => XS.icmpNo X.here C.1 rfl (hb C.2.2.2.1 hd) rfl hc k) (HN hc)
  · exact WP.step (fun p e s m args below meth c T L C X hT target k => XS.icmpYes X.here C.1 rfl (pc0 := pc) (pc' := tgt) rfl (hb C.2.2.2.1 hd) rfl hc (by omega) (by omega) k) (HY hc)
theorem WP.ifc {cd : ClassFile.Cond} {x : Int32} {o : Int} {tgt : Nat} (hd : decode B.bytes pc = .ok (.ifCond cd o, 3)) (ht : (pc : Int) + o = (tgt : Int)) (hp : pc + 3 = pc') (HY : if_icmp.holds cd x 0 = true → WP l B Z n0 Q h cs sl tgt ls st) (HN : if_icmp.holds cd x 0 = false → WP l B Z n0 Q h cs sl pc' ls st) : WP l B Z n0 Q h cs sl pc ls (.int x :: st) := by
  subst hp
  cases hc : if_icmp.holds cd x 0
  · exact WP.step (fun p e s m args below meth c T L C X hT target k => XS.ifNo X.here C.1 rfl (hb C.2.2.2.1 hd) rfl ((if0 _ _).trans hc) k) (HN hc)
  · exact WP.step (fun p e s m args below meth c T L C X hT target k => XS.ifYes X.here C.1 rfl (pc0 := pc) (pc' := tgt) rfl (hb C.2.2.2.1 hd) rfl ((if0 _ _).trans hc) (by omega) (by omega) k) (HY hc)
theorem WP.lcmp {x y : Int64} (hd : decode B.bytes pc = .ok (.lcmp, 1)) (hp : pc + 1 = pc') (H : WP l B Z n0 Q h cs sl pc' ls (.int (cmpL x y) :: st)) : WP l B Z n0 Q h cs sl pc ls (.long y :: .long x :: st) := by
  subst hp; exact WP.step (fun p e s m args below meth c T L C X hT target k => XS.lcmp X.here C.1 rfl (hb C.2.2.2.1 hd) rfl k) H
theorem WP.icmpEq {x y : Int32} {o : Int} {tgt : Nat} (hd : decode B.bytes pc = .ok (.if_icmp .eq o, 3)) (ht : (pc : Int) + o = (tgt : Int)) (hp : pc + 3 = pc') (HY : x.toInt = y.toInt → WP l B Z n0 Q h cs sl tgt ls st) (HN : x.toInt ≠ y.toInt → WP l B Z n0 Q h cs sl pc' ls st) : WP l B Z n0 Q h cs sl pc ls (.int y :: .int x :: st) :=
  WP.icmp hd ht hp (fun q => HY (by rw [own_holds] at q; simpa using q)) (fun q => HN (by rw [own_holds] at q; simpa using q))
theorem WP.ifEq {x : Int32} {o : Int} {tgt : Nat} (hd : decode B.bytes pc = .ok (.ifCond .eq o, 3)) (ht : (pc : Int) + o = (tgt : Int)) (hp : pc + 3 = pc') (HY : x.toInt = 0 → WP l B Z n0 Q h cs sl tgt ls st) (HN : x.toInt ≠ 0 → WP l B Z n0 Q h cs sl pc' ls st) : WP l B Z n0 Q h cs sl pc ls (.int x :: st) :=
  WP.ifc hd ht hp (fun q => HY (by rw [own_holds] at q; simpa using q)) (fun q => HN (by rw [own_holds] at q; simpa using q))
theorem WP.lcmpEq {x y : Int64} {o : Int} {tgt pc1 : Nat} (hd : decode B.bytes pc = .ok (.lcmp, 1)) (h1 : pc + 1 = pc1) (hd1 : decode B.bytes pc1 = .ok (.ifCond .eq o, 3)) (ht : (pc1 : Int) + o = (tgt : Int)) (hp : pc1 + 3 = pc') (HY : x.toInt = y.toInt → WP l B Z n0 Q h cs sl tgt ls st) (HN : x.toInt ≠ y.toInt → WP l B Z n0 Q h cs sl pc' ls st) : WP l B Z n0 Q h cs sl pc ls (.long y :: .long x :: st) :=
  WP.lcmp hd h1 (WP.ifc hd1 ht hp (fun q => HY (by rw [own_cmpL] at q; simpa using q)) (fun q => HN (by rw [own_cmpL] at q; simpa using q)))
theorem WP.icmpNe {x y : Int32} {o : Int} {tgt : Nat} (hd : decode B.bytes pc = .ok (.if_icmp .ne o, 3)) (ht : (pc : Int) + o = (tgt : Int)) (hp : pc + 3 = pc') (HY : x.toInt ≠ y.toInt → WP l B Z n0 Q h cs sl tgt ls st) (HN : x.toInt = y.toInt → WP l B Z n0 Q h cs sl pc' ls st) : WP l B Z n0 Q h cs sl pc ls (.int y :: .int x :: st) :=
  WP.icmp hd ht hp (fun q => HY (by rw [own_holds] at q; simpa using q)) (fun q => HN (by rw [own_holds] at q; simpa using q))
theorem WP.ifNe {x : Int32} {o : Int} {tgt : Nat} (hd : decode B.bytes pc = .ok (.ifCond .ne o, 3)) (ht : (pc : Int) + o = (tgt : Int)) (hp : pc + 3 = pc') (HY : x.toInt ≠ 0 → WP l B Z n0 Q h cs sl tgt ls st) (HN : x.toInt = 0 → WP l B Z n0 Q h cs sl pc' ls st) : WP l B Z n0 Q h cs sl pc ls (.int x :: st) :=
  WP.ifc hd ht hp (fun q => HY (by rw [own_holds] at q; simpa using q)) (fun q => HN (by rw [own_holds] at q; simpa using q))
theorem WP.lcmpNe {x y : Int64} {o : Int} {tgt pc1 : Nat} (hd : decode B.bytes pc = .ok (.lcmp, 1)) (h1 : pc + 1 = pc1) (hd1 : decode B.bytes pc1 = .ok (.ifCond .ne o, 3)) (ht : (pc1 : Int) + o = (tgt : Int)) (hp : pc1 + 3 = pc') (HY : x.toInt ≠ y.toInt → WP l B Z n0 Q h cs sl tgt ls st) (HN : x.toInt = y.toInt → WP l B Z n0 Q h cs sl pc' ls st) : WP l B Z n0 Q h cs sl pc ls (.long y :: .long x :: st) :=
  WP.lcmp hd h1 (WP.ifc hd1 ht hp (fun q => HY (by rw [own_cmpL] at q; simpa using q)) (fun q => HN (by rw [own_cmpL] at q; simpa using q)))
theorem WP.icmpLt {x y : Int32} {o : Int} {tgt : Nat} (hd : decode B.bytes pc = .ok (.if_icmp .lt o, 3)) (ht : (pc : Int) + o = (tgt : Int)) (hp : pc + 3 = pc') (HY : x.toInt < y.toInt → WP l B Z n0 Q h cs sl tgt ls st) (HN : y.toInt ≤ x.toInt → WP l B Z n0 Q h cs sl pc' ls st) : WP l B Z n0 Q h cs sl pc ls (.int y :: .int x :: st) :=
  WP.icmp hd ht hp (fun q => HY (by rw [own_holds] at q; simpa using q)) (fun q => HN (by rw [own_holds] at q; simpa using q))
theorem WP.ifLt {x : Int32} {o : Int} {tgt : Nat} (hd : decode B.bytes pc = .ok (.ifCond .lt o, 3)) (ht : (pc : Int) + o = (tgt : Int)) (hp : pc + 3 = pc') (HY : x.toInt < 0 → WP l B Z n0 Q h cs sl tgt ls st) (HN : 0 ≤ x.toInt → WP l B Z n0 Q h cs sl pc' ls st) : WP l B Z n0 Q h cs sl pc ls (.int x :: st) :=
  WP.ifc hd ht hp (fun q => HY (by rw [own_holds] at q; simpa using q)) (fun q => HN (by rw [own_holds] at q; simpa using q))
theorem WP.lcmpLt {x y : Int64} {o : Int} {tgt pc1 : Nat} (hd : decode B.bytes pc = .ok (.lcmp, 1)) (h1 : pc + 1 = pc1) (hd1 : decode B.bytes pc1 = .ok (.ifCond .lt o, 3)) (ht : (pc1 : Int) + o = (tgt : Int)) (hp : pc1 + 3 = pc') (HY : x.toInt < y.toInt → WP l B Z n0 Q h cs sl tgt ls st) (HN : y.toInt ≤ x.toInt → WP l B Z n0 Q h cs sl pc' ls st) : WP l B Z n0 Q h cs sl pc ls (.long y :: .long x :: st) :=
  WP.lcmp hd h1 (WP.ifc hd1 ht hp (fun q => HY (by rw [own_cmpL] at q; simpa using q)) (fun q => HN (by rw [own_cmpL] at q; simpa using q)))
theorem WP.icmpGe {x y : Int32} {o : Int} {tgt : Nat} (hd : decode B.bytes pc = .ok (.if_icmp .ge o, 3)) (ht : (pc : Int) + o = (tgt : Int)) (hp : pc + 3 = pc') (HY : y.toInt ≤ x.toInt → WP l B Z n0 Q h cs sl tgt ls st) (HN : x.toInt < y.toInt → WP l B Z n0 Q h cs sl pc' ls st) : WP l B Z n0 Q h cs sl pc ls (.int y :: .int x :: st) :=
  WP.icmp hd ht hp (fun q => HY (by rw [own_holds] at q; simpa using q)) (fun q => HN (by rw [own_holds] at q; simpa using q))
theorem WP.ifGe {x : Int32} {o : Int} {tgt : Nat} (hd : decode B.bytes pc = .ok (.ifCond .ge o, 3)) (ht : (pc : Int) + o = (tgt : Int)) (hp : pc + 3 = pc') (HY : 0 ≤ x.toInt → WP l B Z n0 Q h cs sl tgt ls st) (HN : x.toInt < 0 → WP l B Z n0 Q h cs sl pc' ls st) : WP l B Z n0 Q h cs sl pc ls (.int x :: st) :=
  WP.ifc hd ht hp (fun q => HY (by rw [own_holds] at q; simpa using q)) (fun q => HN (by rw [own_holds] at q; simpa using q))
theorem WP.lcmpGe {x y : Int64} {o : Int} {tgt pc1 : Nat} (hd : decode B.bytes pc = .ok (.lcmp, 1)) (h1 : pc + 1 = pc1) (hd1 : decode B.bytes pc1 = .ok (.ifCond .ge o, 3)) (ht : (pc1 : Int) + o = (tgt : Int)) (hp : pc1 + 3 = pc') (HY : y.toInt ≤ x.toInt → WP l B Z n0 Q h cs sl tgt ls st) (HN : x.toInt < y.toInt → WP l B Z n0 Q h cs sl pc' ls st) : WP l B Z n0 Q h cs sl pc ls (.long y :: .long x :: st) :=
  WP.lcmp hd h1 (WP.ifc hd1 ht hp (fun q => HY (by rw [own_cmpL] at q; simpa using q)) (fun q => HN (by rw [own_cmpL] at q; simpa using q)))
theorem WP.icmpGt {x y : Int32} {o : Int} {tgt : Nat} (hd : decode B.bytes pc = .ok (.if_icmp .gt o, 3)) (ht : (pc : Int) + o = (tgt : Int)) (hp : pc + 3 = pc') (HY : y.toInt < x.toInt → WP l B Z n0 Q h cs sl tgt ls st) (HN : x.toInt ≤ y.toInt → WP l B Z n0 Q h cs sl pc' ls st) : WP l B Z n0 Q h cs sl pc ls (.int y :: .int x :: st) :=
  WP.icmp hd ht hp (fun q => HY (by rw [own_holds] at q; simpa using q)) (fun q => HN (by rw [own_holds] at q; simpa using q))
theorem WP.ifGt {x : Int32} {o : Int} {tgt : Nat} (hd : decode B.bytes pc = .ok (.ifCond .gt o, 3)) (ht : (pc : Int) + o = (tgt : Int)) (hp : pc + 3 = pc') (HY : 0 < x.toInt → WP l B Z n0 Q h cs sl tgt ls st) (HN : x.toInt ≤ 0 → WP l B Z n0 Q h cs sl pc' ls st) : WP l B Z n0 Q h cs sl pc ls (.int x :: st) :=
  WP.ifc hd ht hp (fun q => HY (by rw [own_holds] at q; simpa using q)) (fun q => HN (by rw [own_holds] at q; simpa using q))
theorem WP.lcmpGt {x y : Int64} {o : Int} {tgt pc1 : Nat} (hd : decode B.bytes pc = .ok (.lcmp, 1)) (h1 : pc + 1 = pc1) (hd1 : decode B.bytes pc1 = .ok (.ifCond .gt o, 3)) (ht : (pc1 : Int) + o = (tgt : Int)) (hp : pc1 + 3 = pc') (HY : y.toInt < x.toInt → WP l B Z n0 Q h cs sl tgt ls st) (HN : x.toInt ≤ y.toInt → WP l B Z n0 Q h cs sl pc' ls st) : WP l B Z n0 Q h cs sl pc ls (.long y :: .long x :: st) :=
  WP.lcmp hd h1 (WP.ifc hd1 ht hp (fun q => HY (by rw [own_cmpL] at q; simpa using q)) (fun q => HN (by rw [own_cmpL] at q; simpa using q)))
theorem WP.icmpLe {x y : Int32} {o : Int} {tgt : Nat} (hd : decode B.bytes pc = .ok (.if_icmp .le o, 3)) (ht : (pc : Int) + o = (tgt : Int)) (hp : pc + 3 = pc') (HY : x.toInt ≤ y.toInt → WP l B Z n0 Q h cs sl tgt ls st) (HN : y.toInt < x.toInt → WP l B Z n0 Q h cs sl pc' ls st) : WP l B Z n0 Q h cs sl pc ls (.int y :: .int x :: st) :=
  WP.icmp hd ht hp (fun q => HY (by rw [own_holds] at q; simpa using q)) (fun q => HN (by rw [own_holds] at q; simpa using q))
theorem WP.ifLe {x : Int32} {o : Int} {tgt : Nat} (hd : decode B.bytes pc = .ok (.ifCond .le o, 3)) (ht : (pc : Int) + o = (tgt : Int)) (hp : pc + 3 = pc') (HY : x.toInt ≤ 0 → WP l B Z n0 Q h cs sl tgt ls st) (HN : 0 < x.toInt → WP l B Z n0 Q h cs sl pc' ls st) : WP l B Z n0 Q h cs sl pc ls (.int x :: st) :=
  WP.ifc hd ht hp (fun q => HY (by rw [own_holds] at q; simpa using q)) (fun q => HN (by rw [own_holds] at q; simpa using q))
theorem WP.lcmpLe {x y : Int64} {o : Int} {tgt pc1 : Nat} (hd : decode B.bytes pc = .ok (.lcmp, 1)) (h1 : pc + 1 = pc1) (hd1 : decode B.bytes pc1 = .ok (.ifCond .le o, 3)) (ht : (pc1 : Int) + o = (tgt : Int)) (hp : pc1 + 3 = pc') (HY : x.toInt ≤ y.toInt → WP l B Z n0 Q h cs sl tgt ls st) (HN : y.toInt < x.toInt → WP l B Z n0 Q h cs sl pc' ls st) : WP l B Z n0 Q h cs sl pc ls (.long y :: .long x :: st) :=
  WP.lcmp hd h1 (WP.ifc hd1 ht hp (fun q => HY (by rw [own_cmpL] at q; simpa using q)) (fun q => HN (by rw [own_cmpL] at q; simpa using q)))
theorem WP.ifnullY {o : Int} (hd : decode B.bytes pc = .ok (.ifnull o, 3)) (ht : (pc : Int) + o = (pc' : Int)) (H : WP l B Z n0 Q h cs sl pc' ls st) : WP l B Z n0 Q h cs sl pc ls (.null :: st) :=
  WP.step (fun p e s m args below meth c T L C X hT target k => XS.ifnullYes X.here C.1 rfl (pc0 := pc) (pc' := pc') rfl (hb C.2.2.2.1 hd) rfl (by omega) (by omega) k) H
theorem WP.ifnullN {o : Int} {a : Addr} (hd : decode B.bytes pc = .ok (.ifnull o, 3)) (hp : pc + 3 = pc') (H : WP l B Z n0 Q h cs sl pc' ls st) : WP l B Z n0 Q h cs sl pc ls (.ref a :: st) := by
  subst hp; exact WP.step (fun p e s m args below meth c T L C X hT target k => XS.ifnullNo X.here C.1 rfl (hb C.2.2.2.1 hd) rfl k) H
theorem WP.ifnonnullN {o : Int} (hd : decode B.bytes pc = .ok (.ifnonnull o, 3)) (hp : pc + 3 = pc') (H : WP l B Z n0 Q h cs sl pc' ls st) : WP l B Z n0 Q h cs sl pc ls (.null :: st) := by
  subst hp; exact WP.step (fun p e s m args below meth c T L C X hT target k => XS.ifnonnullNo X.here C.1 rfl (hb C.2.2.2.1 hd) rfl k) H
theorem WP.ifnonnullY {o : Int} {a : Addr} (hd : decode B.bytes pc = .ok (.ifnonnull o, 3)) (ht : (pc : Int) + o = (pc' : Int)) (H : WP l B Z n0 Q h cs sl pc' ls st) : WP l B Z n0 Q h cs sl pc ls (.ref a :: st) :=
  WP.step (fun p e s m args below meth c T L C X hT target k => XS.ifnonnullYes X.here C.1 rfl (pc0 := pc) (pc' := pc') rfl (hb C.2.2.2.1 hd) rfl (by omega) (by omega) k) H
theorem WP.acmpEq {x y : Value} {o : Int} {tgt : Nat} (hd : decode B.bytes pc = .ok (.if_acmp .eq o, 3)) (ht : (pc : Int) + o = (tgt : Int)) (hp : pc + 3 = pc') (h1 : x.isRef = true) (h2 : y.isRef = true) (HY : x = y → WP l B Z n0 Q h cs sl tgt ls st) (HN : x ≠ y → WP l B Z n0 Q h cs sl pc' ls st) : WP l B Z n0 Q h cs sl pc ls (y :: x :: st) := by
  subst hp
  have e1 : ((pc : Int) + o).toNat = tgt := by omega
  by_cases q : x = y
  · exact WP.step (fun p e s m args below meth c T L C X hT target k => Jvm.RoadKit.acmp (g := mkF m pc ls (y :: x :: st)) X C.1 rfl h1 h2 (pc0 := pc) (pc' := tgt) (same := true) rfl (hb C.2.2.2.1 hd) rfl (by simp [q]) (by omega) (by simp [acV, e1]) k) (HY q)
  · exact WP.step (fun p e s m args below meth c T L C X hT target k => Jvm.RoadKit.acmp (g := mkF m pc ls (y :: x :: st)) X C.1 rfl h1 h2 (pc0 := pc) (pc' := pc + 3) (same := false) rfl (hb C.2.2.2.1 hd) rfl (by simp [q]) (by omega) (by simp [acV]) k) (HN q)
theorem WP.acmpNe {x y : Value} {o : Int} {tgt : Nat} (hd : decode B.bytes pc = .ok (.if_acmp .ne o, 3)) (ht : (pc : Int) + o = (tgt : Int)) (hp : pc + 3 = pc') (h1 : x.isRef = true) (h2 : y.isRef = true) (HY : x ≠ y → WP l B Z n0 Q h cs sl tgt ls st) (HN : x = y → WP l B Z n0 Q h cs sl pc' ls st) : WP l B Z n0 Q h cs sl pc ls (y :: x :: st) := by
  subst hp
  have e1 : ((pc : Int) + o).toNat = tgt := by omega
  by_cases q : x = y
  · exact WP.step (fun p e s m args below meth c T L C X hT target k => Jvm.RoadKit.acmp (g := mkF m pc ls (y :: x :: st)) X C.1 rfl h1 h2 (pc0 := pc) (pc' := pc + 3) (same := true) rfl (hb C.2.2.2.1 hd) rfl (by simp [q]) (by omega) (by simp [acV]) k) (HN q)
  · exact WP.step (fun p e s m args below meth c T L C X hT target k => Jvm.RoadKit.acmp (g := mkF m pc ls (y :: x :: st)) X C.1 rfl h1 h2 (pc0 := pc) (pc' := tgt) (same := false) rfl (hb C.2.2.2.1 hd) rfl (by simp [q]) (by omega) (by simp [acV, e1]) k) (HY q)
/-! returns -/
theorem WP.ret0 (hd : decode B.bytes pc = .ok (.return_, 1)) (hr : B.ret = none) (hc : cs ≤ B.room.cells) (hs : sl ≤ B.room.slots) (hQ : Q none h) : WP l B Z n0 Q h cs sl pc ls [] := by
  intro p e s m args below meth c T L C X hT N hn
  obtain ⟨hx, hZ, hown, hby, hml, hret, hlk, hnm⟩ := C
  obtain ⟨fs, hrr, hrun, hended, hW, hsame⟩ := X.leave (v := none) (fun _ => rfl) hlk
  have hh : (T.setFrames fs).heap = h := hT
  exact ⟨T.setFrames fs, none, L, X.returnOut hx (hret.trans hr) (hb hby hd) hrr, hrun, hended, by rw [hh]; exact hQ, N, by rw [hh]; exact hn, ⟨_, rfl⟩, hW, hsame.mono hc hs⟩
theorem WP.retI {z : Int32} (hd : decode B.bytes pc = .ok (.ireturn, 1)) (hr : B.ret = some .int) (hc : cs ≤ B.room.cells) (hs : sl ≤ B.room.slots) (hQ : Q (some (.int z)) h) : WP l B Z n0 Q h cs sl pc ls (.int z :: st) := by
  intro p e s m args below meth c T L C X hT N hn
  obtain ⟨hx, hZ, hown, hby, hml, hret, hlk, hnm⟩ := C
  obtain ⟨fs, hrr, hrun, hended, hW, hsame⟩ := X.leave (v := some (.int z)) (fun q => by rw [hret, hr] at q; cases q) hlk
  have hh : (T.setFrames fs).heap = h := hT
  exact ⟨T.setFrames fs, _, L, retOut X hx (hret.trans hr) rfl (Or.inl ⟨rfl, Or.inl rfl, z, rfl⟩) (hb hby hd) hrr, hrun, hended, by rw [hh]; exact hQ, N, by rw [hh]; exact hn, ⟨_, rfl⟩, hW, hsame.mono hc hs⟩
theorem WP.retN {z : Int32} {t : FieldType} (hd : decode B.bytes pc = .ok (.ireturn, 1)) (hr : B.ret = some t) (ht : t = .boolean ∨ t = .byte ∨ t = .char ∨ t = .short) (hc : cs ≤ B.room.cells) (hs : sl ≤ B.room.slots) (hQ : Q (some (.int (nar t z))) h) : WP l B Z n0 Q h cs sl pc ls (.int z :: st) := by
  intro p e s m args below meth c T L C X hT N hn
  obtain ⟨hx, hZ, hown, hby, hml, hret, hlk, hnm⟩ := C
  obtain ⟨fs, hrr, hrun, hended, hW, hsame⟩ := X.leave (v := some (.int (nar t z))) (fun q => by rw [hret, hr] at q; cases q) hlk
  have hh : (T.setFrames fs).heap = h := hT
  exact ⟨T.setFrames fs, _, L, Jvm.RoadKit.retN X hx (hret.trans hr) ht (hb hby hd) hrr, hrun, hended, by rw [hh]; exact hQ, N, by rw [hh]; exact hn, ⟨_, rfl⟩, hW, hsame.mono hc hs⟩
theorem WP.retJ {z : Int64} (hd : decode B.bytes pc = .ok (.lreturn, 1)) (hr : B.ret = some .long) (hc : cs ≤ B.room.cells) (hs : sl ≤ B.room.slots) (hQ : Q (some (.long z)) h) : WP l B Z n0 Q h cs sl pc ls (.long z :: st) := by
  intro p e s m args below meth c T L C X hT N hn
  obtain ⟨hx, hZ, hown, hby, hml, hret, hlk, hnm⟩ := C
  obtain ⟨fs, hrr, hrun, hended, hW, hsame⟩ := X.leave (v := some (.long z)) (fun q => by rw [hret, hr] at q; cases q) hlk
  have hh : (T.setFrames fs).heap = h := hT
  exact ⟨T.setFrames fs, _, L, retOut X hx (hret.trans hr) rfl (Or.inr (Or.inl ⟨rfl, rfl, z, rfl⟩)) (hb hby hd) hrr, hrun, hended, by rw [hh]; exact hQ, N, by rw [hh]; exact hn, ⟨_, rfl⟩, hW, hsame.mono hc hs⟩
theorem WP.retA {z : Value} {t : FieldType} (hd : decode B.bytes pc = .ok (.areturn, 1)) (hr : B.ret = some t) (ht : t.isReference = true) (hz : z.isRef = true) (hc : cs ≤ B.room.cells) (hs : sl ≤ B.room.slots) (hQ : Q (some z) h) : WP l B Z n0 Q h cs sl pc ls (z :: st) := by
  intro p e s m args below meth c T L C X hT N hn
  obtain ⟨hx, hZ, hown, hby, hml, hret, hlk, hnm⟩ := C
  obtain ⟨fs, hrr, hrun, hended, hW, hsame⟩ := X.leave (v := some z) (fun q => by rw [hret, hr] at q; cases q) hlk
  have hh : (T.setFrames fs).heap = h := hT
  have hnw : narrow t z = z := by rcases ref_cases hz with rfl | ⟨a, rfl⟩ <;> cases t <;> rfl
  exact ⟨T.setFrames fs, _, L, retOut X hx (hret.trans hr) hnw (Or.inr (Or.inr (Or.inr (Or.inr ⟨rfl, ht, hz⟩)))) (hb hby hd) hrr, hrun, hended, by rw [hh]; exact hQ, N, by rw [hh]; exact hn, ⟨_, rfl⟩, hW, hsame.mono hc hs⟩
/-! calls -/
theorem WP.callS {y : MethodName} {By : Bod} {as : List Value} {idx : Nat} {Qy : Option Value → Heap → Prop} {ps : List FieldType} {r : Option FieldType}
    (hd : decode B.bytes pc = .ok (.invokestatic idx, 3)) (w1 : (Cond.methodLink B.own idx y).before a0 Z = true) (w2 : (Cond.static y).before a0 Z = true) (w3 : (Cond.initialized y.cls).before a0 Z = true) (w4 : (Cond.code y By.bytes By.maxL By.ret).before a0 Z = true)
    (hy : y.cls ≠ "java/lang/invoke/MethodHandle" ∧ y.cls ≠ "java/lang/invoke/VarHandle") (hM : OMet l y By Z n0 as.toArray h Qy) (hpd : parseMethodDescriptor y.desc = some ⟨ps, r⟩) (hlen : as.length = ps.length) (hst : st = as.reverse ++ rest) (hls : ls.size = B.maxL)
    (hfr : By.room.frames + 1 ≤ B.room.frames) (hlo : (rest.map fun v => v.category).sum + (By.maxL + 11) + By.room.locals ≤ B.room.locals) (hc : cs + By.room.cells ≤ B.room.cells) (hs : sl + By.room.slots ≤ B.room.slots) (hp : pc + 3 = pc')
    (H : ∀ v h', Qy v h' → WP l B Z n0 Q h' (cs + By.room.cells) (sl + By.room.slots) pc' ls (v.toList ++ rest)) : WP l B Z n0 Q h cs sl pc ls st := by
  subst hp
  intro p e s m args below meth c T L C X hT N hn
  obtain ⟨hx, hZ, hown, hby, hml, hret, hlk, hnm⟩ := C
  obtain ⟨v, _, ⟨T1, L1, k1, n1⟩, -, X1, ⟨Lc, hQ, l1, y1, z1⟩, stp⟩ := Jvm.LawKit.callS X hx hown (mvT hZ w1) (mvT hZ w2) (mvT hZ w3) (mvT hZ w4) hy (backOf (W := (rest.map fun v => v.category).sum) (Q := fun v h' L => Qy v h' ∧ Fr n0 L ∧ n0 ≤ h'.size) (hM hn []) hZ w4 w3 hfr hlo) (g := mkF m pc ls st) rfl (by rw [hml]; exact hls) (argsL := as) (rest := rest) (lenOf hpd hlen) hst (by show 2 * 0 + _ ≤ _; omega) (hb hby hd) (fun _ _ => ⟨rfl, hT, hc, hs⟩)
  dsimp only [Pt.U, Pt.locs, Pt.cells, Pt.slots] at X1 l1 y1 z1 stp hQ
  subst l1 y1 z1
  obtain ⟨U, v', L', a1, rr⟩ := H v T1.heap hQ.1 p e s m args below meth c T1 _ ⟨hx, hZ, hown, hby, hml, hret, hlk, hnm⟩ X1 rfl (N.app hQ.2.1) hQ.2.2
  exact ⟨U, v', L', stp _ a1, rr⟩
theorem WP.callI {y : MethodName} {By : Bod} {as : List Value} {a : Addr} {idx : Nat} {Qy : Option Value → Heap → Prop} {ps : List FieldType} {r : Option FieldType}
    (hd : decode B.bytes pc = .ok (.invokespecial idx, 3)) (w1 : (Cond.methodLink B.own idx y).before a0 Z = true) (w2 : (Cond.instanceMethod y).before a0 Z = true) (w3 : (Cond.initialized y.cls).before a0 Z = true) (w4 : (Cond.code y By.bytes By.maxL By.ret).before a0 Z = true) (hyn : y.name = "<init>") (hyr : By.ret = none)
    (hy : y.cls ≠ "java/lang/invoke/MethodHandle" ∧ y.cls ≠ "java/lang/invoke/VarHandle") (hM : OMet l y By Z n0 (.ref a :: as).toArray h Qy) (hpd : parseMethodDescriptor y.desc = some ⟨ps, r⟩) (hlen : as.length = ps.length) (hst : st = as.reverse ++ .ref a :: rest) (hls : ls.size = B.maxL)
    (hfr : By.room.frames + 1 ≤ B.room.frames) (hlo : (rest.map fun v => v.category).sum + (By.maxL + 11) + By.room.locals ≤ B.room.locals) (hc : cs + By.room.cells ≤ B.room.cells) (hs : sl + By.room.slots ≤ B.room.slots) (hp : pc + 3 = pc')
    (H : ∀ v h', Qy v h' → WP l B Z n0 Q h' (cs + By.room.cells) (sl + By.room.slots) pc' ls (v.toList ++ rest)) : WP l B Z n0 Q h cs sl pc ls st := by
  subst hp
  intro p e s m args below meth c T L C X hT N hn
  obtain ⟨hx, hZ, hown, hby, hml, hret, hlk, hnm⟩ := C
  obtain ⟨v, _, ⟨T1, L1, k1, n1⟩, -, X1, ⟨Lc, hQ, l1, y1, z1⟩, stp⟩ := X.specialBack hx (y := y) hyn hown (mvT hZ w1) (mvT hZ w2) (mvT hZ (hyr ▸ w4)) hy (backOf (W := (rest.map fun v => v.category).sum) (Q := fun v h' L => Qy v h' ∧ Fr n0 L ∧ n0 ≤ h'.size) (hM hn []) hZ w4 w3 hfr hlo) (g := mkF m pc ls st) rfl (by rw [hml]; exact hls) (Steps.refl _) (a := a) (argsL := as) (rest := rest) (lenOf hpd hlen) hst (by show 2 * 0 + _ ≤ _; omega) (hb hby hd) (fun _ _ => ⟨rfl, hT, hc, hs⟩)
  dsimp only [Pt.U, Pt.locs, Pt.cells, Pt.slots] at X1 l1 y1 z1 stp hQ
  subst l1 y1 z1
  obtain ⟨U, v', L', a1, rr⟩ := H v T1.heap hQ.1 p e s m args below meth c T1 _ ⟨hx, hZ, hown, hby, hml, hret, hlk, hnm⟩ X1 rfl (N.app hQ.2.1) hQ.2.2
  exact ⟨U, v', L', stp.trans a1, rr⟩
theorem WP.callV {y z : MethodName} {By : Bod} {Cl : String} {as : List Value} {a : Addr} {idx : Nat} {Qy : Option Value → Heap → Prop} {ps : List FieldType} {r : Option FieldType}
    (hd : decode B.bytes pc = .ok (.invokevirtual idx, 3)) (w1 : (Cond.methodLink B.own idx y).before a0 Z = true) (w2 : (Cond.declares y).before a0 Z = true) (w5 : (Cond.selects Cl y z).before a0 Z = true) (w6 : (Cond.instanceMethod z).before a0 Z = true) (w3 : (Cond.initialized z.cls).before a0 Z = true) (w4 : (Cond.code z By.bytes By.maxL By.ret).before a0 Z = true) (hyz : y = z) (hcl : Cl = y.cls)
    (hy : y.cls ≠ "java/lang/invoke/MethodHandle" ∧ y.cls ≠ "java/lang/invoke/VarHandle") (E : Exa Z h a Cl) (hM : OMet l z By Z n0 (.ref a :: as).toArray h Qy) (hpd : parseMethodDescriptor y.desc = some ⟨ps, r⟩) (hlen : as.length = ps.length) (hst : st = as.reverse ++ .ref a :: rest) (hls : ls.size = B.maxL)
    (hfr : By.room.frames + 1 ≤ B.room.frames) (hlo : (rest.map fun v => v.category).sum + (By.maxL + 11) + By.room.locals ≤ B.room.locals) (hc : cs + By.room.cells ≤ B.room.cells) (hs : sl + By.room.slots ≤ B.room.slots) (hp : pc + 3 = pc')
    (H : ∀ v h', Qy v h' → WP l B Z n0 Q h' (cs + By.room.cells) (sl + By.room.slots) pc' ls (v.toList ++ rest)) : WP l B Z n0 Q h cs sl pc ls st := by
  subst hp hyz hcl
  intro p e s m args below meth c T L C X hT N hn
  obtain ⟨hx, hZ, hown, hby, hml, hret, hlk, hnm⟩ := C
  obtain ⟨cq, kq, qa, qb, qc⟩ := isOf (T := T) hZ hT E
  obtain ⟨v, _, ⟨T1, L1, k1, n1⟩, -, X1, ⟨Lc, hQ, l1, y1, z1⟩, stp⟩ := X.virtualBack hx (y := y) (z := y) hown (mvT hZ w1) (mvT hZ w2) (notFace_of_selects (args := #[]) (mvT hZ w5)) (mvT hZ w5) (mvT hZ w6) hy (backOf (W := (rest.map fun v => v.category).sum) (Q := fun v h' L => Qy v h' ∧ Fr n0 L ∧ n0 ≤ h'.size) (hM hn []) hZ w4 w3 hfr hlo) qa qc (g := mkF m pc ls st) rfl (by rw [hml]; exact hls) (Steps.refl _) (argsL := as) (rest := rest) (lenOf hpd hlen) hst (by show 2 * 0 + _ ≤ _; omega) (hb hby hd) (fun _ _ => ⟨rfl, hT, hc, hs⟩)
  dsimp only [Pt.U, Pt.locs, Pt.cells, Pt.slots] at X1 l1 y1 z1 stp hQ
  subst l1 y1 z1
  obtain ⟨U, v', L', a1, rr⟩ := H v T1.heap hQ.1 p e s m args below meth c T1 _ ⟨hx, hZ, hown, hby, hml, hret, hlk, hnm⟩ X1 rfl (N.app hQ.2.1) hQ.2.2
  exact ⟨U, v', L', stp.trans a1, rr⟩
/-- Object.<init> -/
theorem WP.initO {a : Addr} {idx : Nat} (hd : decode B.bytes pc = .ok (.invokespecial idx, 3)) (w1 : (Cond.methodLink B.own idx Lib.objectInit).before a0 Z = true) (w2 : (Cond.instanceMethod Lib.objectInit).before a0 Z = true) (w3 : (Cond.code Lib.objectInit ⟨#[0xb1]⟩ 1 none).before a0 Z = true) (hls : ls.size = B.maxL) (hf : 1 ≤ B.room.frames) (hl : (rest.map fun v => v.category).sum + 12 ≤ B.room.locals) (hp : pc + 3 = pc')
    (H : WP l B Z n0 Q h cs sl pc' ls rest) : WP l B Z n0 Q h cs sl pc ls (.ref a :: rest) := by
  subst hp
  intro p e s m args below meth c T L C X hT N hn
  obtain ⟨hx, hZ, hown, hby, hml, hret, hlk, hnm⟩ := C
  obtain ⟨T1, X1, e1, stp⟩ := Jvm.RoadKit.initO X hx hZ hown w1 w2 w3 hT (g := mkF m pc ls (.ref a :: rest)) rfl (by rw [hml]; exact hls) rfl (hb hby hd) hf (W := (rest.map fun v => v.category).sum) (by show 2 * 0 + _ ≤ _; omega) hl
  obtain ⟨U, v', L', a1, rr⟩ := H p e s m args below meth c T1 _ ⟨hx, hZ, hown, hby, hml, hret, hlk, hnm⟩ X1 e1 N hn
  exact ⟨U, v', L', stp _ a1, rr⟩
/-! arrays: what one holds, place by place -/
def Av (Z : State) (h : Heap) (a : Addr) (ty : FieldType) (vs : List Value) : Prop := ∃ c : Cell, Arr Z h a c ty ∧ c.slots.toList = vs ∧ vs.length < 2 ^ 31
variable {a b : Addr} {ty : FieldType} {vs : List Value} {h' : Heap} {ws : List Addr}
theorem Av.lt (A : Av Z h a ty vs) : a < h.size := by obtain ⟨c, q, -⟩ := A; exact q.lt
theorem Av.keep (A : Av Z h a ty vs) (K : Keep h h' ws) (q : a ∉ ws) : Av Z h' a ty vs := by obtain ⟨c, A, r⟩ := A; exact ⟨c, ⟨K.2.1 a c A.1 q, A.2⟩, r⟩
theorem Av.len (A : Av Z h a ty vs) : vs.length < 2 ^ 31 := by obtain ⟨c, A, r, q⟩ := A; exact q
theorem own_idx {j : Int32} {i : Nat} (hj : j.toInt = (i : Int)) : j.toNatClampNeg = i ∧ ¬ j < 0 := by
  refine ⟨by simp [Int32.toNatClampNeg, hj], fun q => ?_⟩
  rw [Int32.lt_iff_toInt_lt] at q
  have : (0 : Int32).toInt = 0 := rfl
  omega
theorem Av.place {j : Int32} {i : Nat} {v : Value} {c : Cell} (e : c.slots.toList = vs) (hj : j.toInt = (i : Int)) (hv : vs[i]? = some v) : ¬ (j < 0 ∨ c.slots.size ≤ j.toNatClampNeg) ∧ c.slots[j.toNatClampNeg]? = some v := by
  obtain ⟨q1, q2⟩ := own_idx hj
  subst e
  rw [q1]
  have q3 : c.slots[i]? = some v := by simpa using hv
  refine ⟨fun q => q.elim q2 fun q => ?_, q3⟩
  have := (Array.getElem?_eq_some_iff.mp q3).1
  omega
theorem Keep.of_ext (E : Ext h h') : Keep h h' [] := (Keep.refl h []).ext E
theorem Av.set {i : Nat} {v : Value} {sl : Nat} (A : Av Z h a ty vs) (W : Wr h h' a sl v) (e : sl = i) : Av Z h' a ty (vs.set i v) := by
  subst e
  obtain ⟨c, A, r, q⟩ := A
  refine ⟨_, A.same W, ?_, by simpa using q⟩
  simp [Cell.setSlot, r]
theorem WP.newarr {aty : ArrayType} {n : Int32} {k : Nat} (hd : decode B.bytes pc = .ok (.newarray aty, 2)) (w : (Cond.arrayClass (newarray.typeOf aty)).before a0 Z = true) (hn : n.toInt = (k : Int)) (cap : Nat) (hcap : k ≤ cap) (hbig : cap * 8 ≤ 536870912) (hc : cs + 1 ≤ B.room.cells) (hs : sl + cap ≤ B.room.slots) (hp : pc + 2 = pc')
    (H : ∀ b h', b = h.size → n0 ≤ b → Keep h h' [] → Av Z h' b (newarray.typeOf aty) (List.replicate k (defaultValue (newarray.typeOf aty))) → WP l B Z n0 Q h' (cs + 1) (sl + cap) pc' ls (.ref b :: st)) : WP l B Z n0 Q h cs sl pc ls (.int n :: st) := by
  subst hp
  obtain ⟨q1, q2⟩ := own_idx hn
  refine WP.stepT (P := fun h' => Keep h h' [] ∧ n0 ≤ h.size ∧ Av Z h' h.size (newarray.typeOf aty) (List.replicate k (defaultValue (newarray.typeOf aty)))) ?_ (fun h' q => H h.size h' rfl q.2.1 q.1 q.2.2)
  intro p e s m args below meth c T L C X hT N hn'
  obtain ⟨T1, h1, cA, X1, e1, E1, A1, stp⟩ := newP X C.1 C.2.1 w hT (g := mkF m pc ls (.int n :: st)) rfl (hb C.2.2.2.1 hd) rfl q2 (cap := cap) (by omega) hbig hc hs
  refine ⟨T1, h1, L, X1, e1, N, Nat.le_trans hn' E1.1, ⟨Keep.of_ext E1, hn', _, A1, ?_, ?_⟩, stp⟩
  · simp [newA, q1]
  · simp; omega
theorem WP.alen {k : Int32} (hd : decode B.bytes pc = .ok (.arraylength, 1)) (A : Av Z h a ty vs) (hk : k.toInt = (vs.length : Int)) (hp : pc + 1 = pc') (H : WP l B Z n0 Q h cs sl pc' ls (.int k :: st)) : WP l B Z n0 Q h cs sl pc ls (.ref a :: st) := by
  subst hp
  obtain ⟨cl, A, r, q⟩ := A
  have e1 : cl.slots.size.toInt32 = k := by
    have e2 : cl.slots.size = vs.length := by rw [← r]; simp
    apply Int32.toInt_inj.mp
    rw [e2, hk]
    exact Int32.toInt_ofNat_of_lt q
  exact WP.step (fun p e s m args below meth c T L C X hT target k' => X.arraylength C.1 (by rw [hT]; exact A.1) (State.isArrayOf_alike C.2.1.alike A.2.1) (g := mkF m pc ls (.ref a :: st)) rfl rfl (hb C.2.2.2.1 hd) _ (by rw [e1]; exact k')) H
theorem WP.iaload {j : Int32} {x : Int32} (i : Nat) (hd : decode B.bytes pc = .ok (.iaload, 1)) (A : Av Z h a .int vs) (hj : j.toInt = (i : Int)) (hv : vs[i]? = some (.int x)) (hp : pc + 1 = pc') (H : WP l B Z n0 Q h cs sl pc' ls (.int x :: st)) : WP l B Z n0 Q h cs sl pc ls (.int j :: .ref a :: st) := by
  subst hp
  obtain ⟨cl, A, r, q⟩ := A
  obtain ⟨g1, g2⟩ := Av.place r hj hv
  exact WP.step (fun p e s m args below meth c T L C X hT target k' => X.iaload C.1 (by rw [hT]; exact A.1) (State.isArrayOf_alike C.2.1.alike A.2.1) A.2.2 g1 g2 (g := mkF m pc ls (.int j :: .ref a :: st)) rfl rfl (hb C.2.2.2.1 hd) _ k') H
theorem WP.laload {j : Int32} {x : Int64} (i : Nat) (hd : decode B.bytes pc = .ok (.laload, 1)) (A : Av Z h a .long vs) (hj : j.toInt = (i : Int)) (hv : vs[i]? = some (.long x)) (hp : pc + 1 = pc') (H : WP l B Z n0 Q h cs sl pc' ls (.long x :: st)) : WP l B Z n0 Q h cs sl pc ls (.int j :: .ref a :: st) := by
  subst hp
  obtain ⟨cl, A, r, q⟩ := A
  obtain ⟨g1, g2⟩ := Av.place r hj hv
  exact WP.step (fun p e s m args below meth c T L C X hT target k' => X.laload C.1 (by rw [hT]; exact A.1) (State.isArrayOf_alike C.2.1.alike A.2.1) A.2.2 g1 g2 (g := mkF m pc ls (.int j :: .ref a :: st)) rfl rfl (hb C.2.2.2.1 hd) _ k') H
theorem WP.caload {j : Int32} {x : Int32} (i : Nat) (hd : decode B.bytes pc = .ok (.caload, 1)) (A : Av Z h a .char vs) (hj : j.toInt = (i : Int)) (hv : vs[i]? = some (.int x)) (hp : pc + 1 = pc') (H : WP l B Z n0 Q h cs sl pc' ls (.int x :: st)) : WP l B Z n0 Q h cs sl pc ls (.int j :: .ref a :: st) := by
  subst hp
  obtain ⟨cl, A, r, q⟩ := A
  obtain ⟨g1, g2⟩ := Av.place r hj hv
  exact WP.step (fun p e s m args below meth c T L C X hT target k' => X.caload C.1 (by rw [hT]; exact A.1) (State.isArrayOf_alike C.2.1.alike A.2.1) A.2.2 g1 g2 (g := mkF m pc ls (.int j :: .ref a :: st)) rfl rfl (hb C.2.2.2.1 hd) _ k') H
theorem WP.baloadB {j : Int32} {x : Int32} (i : Nat) (hd : decode B.bytes pc = .ok (.baload, 1)) (A : Av Z h a .byte vs) (hj : j.toInt = (i : Int)) (hv : vs[i]? = some (.int x)) (hp : pc + 1 = pc') (H : WP l B Z n0 Q h cs sl pc' ls (.int x :: st)) : WP l B Z n0 Q h cs sl pc ls (.int j :: .ref a :: st) := by
  subst hp
  obtain ⟨cl, A, r, q⟩ := A
  obtain ⟨g1, g2⟩ := Av.place r hj hv
  exact WP.step (fun p e s m args below meth c T L C X hT target k' => X.baloadBytes C.1 (by rw [hT]; exact A.1) (State.isArrayOf_alike C.2.1.alike A.2.1) A.2.2 g1 g2 (g := mkF m pc ls (.int j :: .ref a :: st)) rfl rfl (hb C.2.2.2.1 hd) _ k') H
theorem WP.baloadZ {j : Int32} {x : Int32} (i : Nat) (hd : decode B.bytes pc = .ok (.baload, 1)) (A : Av Z h a .boolean vs) (hj : j.toInt = (i : Int)) (hv : vs[i]? = some (.int x)) (hp : pc + 1 = pc') (H : WP l B Z n0 Q h cs sl pc' ls (.int x :: st)) : WP l B Z n0 Q h cs sl pc ls (.int j :: .ref a :: st) := by
  subst hp
  obtain ⟨cl, A, r, q⟩ := A
  obtain ⟨g1, g2⟩ := Av.place r hj hv
  exact WP.step (fun p e s m args below meth c T L C X hT target k' => X.baloadBooleans C.1 (by rw [hT]; exact A.1) (State.isArrayOf_alike C.2.1.alike A.2.1) A.2.2 g1 g2 (g := mkF m pc ls (.int j :: .ref a :: st)) rfl rfl (hb C.2.2.2.1 hd) _ k') H
theorem WP.aaload {j : Int32} {x : Value} (i : Nat) (hd : decode B.bytes pc = .ok (.aaload, 1)) (A : Av Z h a ty vs) (hty : ty.isReference = true) (hj : j.toInt = (i : Int)) (hv : vs[i]? = some x) (hp : pc + 1 = pc') (H : WP l B Z n0 Q h cs sl pc' ls (x :: st)) : WP l B Z n0 Q h cs sl pc ls (.int j :: .ref a :: st) := by
  subst hp
  obtain ⟨cl, A, r, q⟩ := A
  obtain ⟨g1, g2⟩ := Av.place r hj hv
  exact WP.step (fun p e s m args below meth c T L C X hT target k' => X.aaload C.1 (by rw [hT]; exact A.1) (State.isArrayOf_alike C.2.1.alike A.2.1) hty A.2.2 g1 g2 (g := mkF m pc ls (.int j :: .ref a :: st)) rfl rfl (hb C.2.2.2.1 hd) _ k') H
theorem WP.iastore {j : Int32} {x : Int32} (i : Nat) (hd : decode B.bytes pc = .ok (.iastore, 1)) (A : Av Z h a .int vs) (hj : j.toInt = (i : Int)) (hi : i < vs.length) (ha : n0 ≤ a) (hp : pc + 1 = pc') (H : ∀ h', Keep h h' [a] → Av Z h' a .int (vs.set i (.int x)) → WP l B Z n0 Q h' cs sl pc' ls st) : WP l B Z n0 Q h cs sl pc ls (.int x :: .int j :: .ref a :: st) := by
  subst hp
  obtain ⟨cl, Ar, r, q⟩ := id A
  obtain ⟨g1, -⟩ := Av.place r hj (List.getElem?_eq_getElem hi)
  refine WP.stepT (P := fun h' => Keep h h' [a] ∧ Av Z h' a .int (vs.set i (.int x))) ?_ (fun h' q => H h' q.1 q.2)
  intro p e s m args below meth c T L C X hT N hn'
  obtain ⟨T1, h1, X1, e1, W1, stp⟩ := stI X C.1 C.2.1 hT Ar g1 (g := mkF m pc ls (.int x :: .int j :: .ref a :: st)) rfl rfl (hb C.2.2.2.1 hd)
  exact ⟨T1, h1, _, X1, e1, Fr.snoc X1 N ha, by rw [W1.size]; exact hn', ⟨Keep.of_wr W1, A.set W1 (own_idx hj).1⟩, stp⟩
theorem WP.lastore {j : Int32} {x : Int64} (i : Nat) (hd : decode B.bytes pc = .ok (.lastore, 1)) (A : Av Z h a .long vs) (hj : j.toInt = (i : Int)) (hi : i < vs.length) (ha : n0 ≤ a) (hp : pc + 1 = pc') (H : ∀ h', Keep h h' [a] → Av Z h' a .long (vs.set i (.long x)) → WP l B Z n0 Q h' cs sl pc' ls st) : WP l B Z n0 Q h cs sl pc ls (.long x :: .int j :: .ref a :: st) := by
  subst hp
  obtain ⟨cl, Ar, r, q⟩ := id A
  obtain ⟨g1, -⟩ := Av.place r hj (List.getElem?_eq_getElem hi)
  refine WP.stepT (P := fun h' => Keep h h' [a] ∧ Av Z h' a .long (vs.set i (.long x))) ?_ (fun h' q => H h' q.1 q.2)
  intro p e s m args below meth c T L C X hT N hn'
  obtain ⟨T1, h1, X1, e1, W1, stp⟩ := stJ X C.1 C.2.1 hT Ar g1 (g := mkF m pc ls (.long x :: .int j :: .ref a :: st)) rfl rfl (hb C.2.2.2.1 hd)
  exact ⟨T1, h1, _, X1, e1, Fr.snoc X1 N ha, by rw [W1.size]; exact hn', ⟨Keep.of_wr W1, A.set W1 (own_idx hj).1⟩, stp⟩
theorem WP.castore {j : Int32} {x : Int32} (i : Nat) (hd : decode B.bytes pc = .ok (.castore, 1)) (A : Av Z h a .char vs) (hj : j.toInt = (i : Int)) (hi : i < vs.length) (ha : n0 ≤ a) (hp : pc + 1 = pc') (H : ∀ h', Keep h h' [a] → Av Z h' a .char (vs.set i (.int (nar .char x))) → WP l B Z n0 Q h' cs sl pc' ls st) : WP l B Z n0 Q h cs sl pc ls (.int x :: .int j :: .ref a :: st) := by
  subst hp
  obtain ⟨cl, Ar, r, q⟩ := id A
  obtain ⟨g1, -⟩ := Av.place r hj (List.getElem?_eq_getElem hi)
  refine WP.stepT (P := fun h' => Keep h h' [a] ∧ Av Z h' a .char (vs.set i (.int (nar .char x)))) ?_ (fun h' q => H h' q.1 q.2)
  intro p e s m args below meth c T L C X hT N hn'
  obtain ⟨T1, h1, X1, e1, W1, stp⟩ := stC X C.1 C.2.1 hT Ar g1 (g := mkF m pc ls (.int x :: .int j :: .ref a :: st)) rfl rfl (hb C.2.2.2.1 hd)
  exact ⟨T1, h1, _, X1, e1, Fr.snoc X1 N ha, by rw [W1.size]; exact hn', ⟨Keep.of_wr W1, A.set W1 (own_idx hj).1⟩, stp⟩
theorem WP.bastoreB {j : Int32} {x : Int32} (i : Nat) (hd : decode B.bytes pc = .ok (.bastore, 1)) (A : Av Z h a .byte vs) (hj : j.toInt = (i : Int)) (hi : i < vs.length) (ha : n0 ≤ a) (hp : pc + 1 = pc') (H : ∀ h', Keep h h' [a] → Av Z h' a .byte (vs.set i (.int (nar .byte x))) → WP l B Z n0 Q h' cs sl pc' ls st) : WP l B Z n0 Q h cs sl pc ls (.int x :: .int j :: .ref a :: st) := by
  subst hp
  obtain ⟨cl, Ar, r, q⟩ := id A
  obtain ⟨g1, -⟩ := Av.place r hj (List.getElem?_eq_getElem hi)
  refine WP.stepT (P := fun h' => Keep h h' [a] ∧ Av Z h' a .byte (vs.set i (.int (nar .byte x)))) ?_ (fun h' q => H h' q.1 q.2)
  intro p e s m args below meth c T L C X hT N hn'
  obtain ⟨T1, h1, X1, e1, W1, stp⟩ := stB X C.1 C.2.1 hT Ar g1 (g := mkF m pc ls (.int x :: .int j :: .ref a :: st)) rfl rfl (hb C.2.2.2.1 hd)
  exact ⟨T1, h1, _, X1, e1, Fr.snoc X1 N ha, by rw [W1.size]; exact hn', ⟨Keep.of_wr W1, A.set W1 (own_idx hj).1⟩, stp⟩
theorem WP.bastoreZ {j : Int32} {x : Int32} (i : Nat) (hd : decode B.bytes pc = .ok (.bastore, 1)) (A : Av Z h a .boolean vs) (hj : j.toInt = (i : Int)) (hi : i < vs.length) (ha : n0 ≤ a) (hp : pc + 1 = pc') (H : ∀ h', Keep h h' [a] → Av Z h' a .boolean (vs.set i (.int (nar .boolean x))) → WP l B Z n0 Q h' cs sl pc' ls st) : WP l B Z n0 Q h cs sl pc ls (.int x :: .int j :: .ref a :: st) := by
  subst hp
  obtain ⟨cl, Ar, r, q⟩ := id A
  obtain ⟨g1, -⟩ := Av.place r hj (List.getElem?_eq_getElem hi)
  refine WP.stepT (P := fun h' => Keep h h' [a] ∧ Av Z h' a .boolean (vs.set i (.int (nar .boolean x)))) ?_ (fun h' q => H h' q.1 q.2)
  intro p e s m args below meth c T L C X hT N hn'
  obtain ⟨T1, h1, X1, e1, W1, stp⟩ := stZ X C.1 C.2.1 hT Ar g1 (g := mkF m pc ls (.int x :: .int j :: .ref a :: st)) rfl rfl (hb C.2.2.2.1 hd)
  exact ⟨T1, h1, _, X1, e1, Fr.snoc X1 N ha, by rw [W1.size]; exact hn', ⟨Keep.of_wr W1, A.set W1 (own_idx hj).1⟩, stp⟩
/-! objects: the fields that the sheet lays, in one list -/
abbrev OLay : Type := List (String × String × String)
def Ob (Z : State) (h : Heap) (a : Addr) (C : String) (lay : OLay) (vs : List Value) : Prop := Exa Z h a C ∧ lay.length = vs.length ∧ ∀ (i : Nat) (O n d : String) (v : Value), lay[i]? = some (O, n, d) → vs[i]? = some v → Fld Z h a O n d v
def OLaids (Z : State) (a0 : Array Value) (C : String) (lay : OLay) : Prop := ∀ q ∈ lay, Laid Z a0 C q.1 q.2.1 q.2.2 ∧ ∃ t, parseFieldDescriptor q.2.2 = some t
variable {Cl O n d : String} {lay : OLay} {v : Value}
theorem Ob.lt (A : Ob Z h a Cl lay vs) : a < h.size := A.1.lt
theorem Ob.keep (A : Ob Z h a Cl lay vs) (K : Keep h h' ws) (q : a ∉ ws) : Ob Z h' a Cl lay vs := ⟨A.1.keep K, A.2.1, fun i O n d v h1 h2 => (A.2.2 i O n d v h1 h2).keep K q⟩
theorem Ob.fld (A : Ob Z h a Cl lay vs) (i : Nat) (h1 : lay[i]? = some (O, n, d)) (h2 : vs[i]? = some v) : Fld Z h a O n d v := A.2.2 i O n d v h1 h2
theorem Ob.put {i : Nat} (A : Ob Z h a Cl lay vs) (La : OLaids Z a0 Cl lay) (hnd : (lay.map fun q => q.2.1).Nodup) (h1 : lay[i]? = some (O, n, d)) (W : Wr h h' a (Jvm.RoadKit.slotOf Z O n d) v) : Ob Z h' a Cl lay (vs.set i v) := by
  refine ⟨A.1.wr W, by simpa using A.2.1, fun j O' n' d' v' g1 g2 => ?_⟩
  by_cases e : i = j
  · subst e
    cases h1.symm.trans g1
    have hi : i < vs.length := by rw [← A.2.1]; exact (List.getElem?_eq_some_iff.mp h1).1
    rw [List.getElem?_set_self hi] at g2
    cases g2
    exact (A.fld i h1 (List.getElem?_eq_getElem hi)).same W
  · rw [List.getElem?_set_ne e] at g2
    refine (A.fld j g1 g2).other W (Or.inr ?_)
    obtain ⟨l1, t1, p1⟩ := La _ (List.mem_of_getElem? g1)
    obtain ⟨l2, t2, p2⟩ := La _ (List.mem_of_getElem? h1)
    refine slot_ne l1 l2 (fun q => ?_) p1 p2
    have k1 : (lay.map fun q => q.2.1)[j]? = some n' := by simp [g1]
    have k2 : (lay.map fun q => q.2.1)[i]? = some n := by simp [h1]
    obtain ⟨m1, f1⟩ := List.getElem?_eq_some_iff.mp k1
    obtain ⟨m2, f2⟩ := List.getElem?_eq_some_iff.mp k2
    have pw := List.pairwise_iff_getElem.mp hnd
    rcases Nat.lt_or_gt_of_ne e with c | c
    · exact pw i j m2 m1 c (f2.trans ((show n = n' from q.symm).trans f1.symm))
    · exact pw j i m1 m2 c (f1.trans ((show n' = n from q).trans f2.symm))
theorem WP.getf {idx i : Nat} (hd : decode B.bytes pc = .ok (.getfield idx, 3)) (w : (Cond.fieldLink B.own idx O n d).before a0 Z = true) (A : Ob Z h a Cl lay vs) (h1 : lay[i]? = some (O, n, d)) (h2 : vs[i]? = some v) (hp : pc + 3 = pc') (H : WP l B Z n0 Q h cs sl pc' ls (v :: st)) : WP l B Z n0 Q h cs sl pc ls (.ref a :: st) := by
  subst hp
  intro p e s m args below meth c T L C X hT N hn
  obtain ⟨T1, X1, e1, stp⟩ := getF X C.1 C.2.1 C.2.2.1 (host := "") (Or.inl w) Via.refl hT (A.fld i h1 h2) (g := mkF m pc ls (.ref a :: st)) rfl rfl (hb C.2.2.2.1 hd)
  obtain ⟨U, v', L', a1, rr⟩ := H p e s m args below meth c T1 _ C X1 e1 N hn
  exact ⟨U, v', L', stp _ a1, rr⟩
theorem WP.putf {idx i kk : Nat} {t : FieldType} (hd : decode B.bytes pc = .ok (.putfield idx, 3)) (w : (Cond.fieldLink B.own idx O n d).before a0 Z = true) (A : Ob Z h a Cl lay vs) (La : OLaids Z a0 Cl lay) (hnd : (lay.map fun q => q.2.1).Nodup) (h1 : lay[i]? = some (O, n, d))
    (hL : (Cond.lays Cl O n d).before a0 Z = true ∨ ((Cond.laysFinal Cl O n d).before a0 Z = true ∧ B.own = O ∧ B.mname = "<init>")) (wi : (Cond.instantiable Cl kk).before a0 Z = true) (ht : parseFieldDescriptor d = some t) (hnw : narrow t v = v) (hf : fits t v = true) (ha : n0 ≤ a) (hp : pc + 3 = pc')
    (H : ∀ h', Keep h h' [a] → Ob Z h' a Cl lay (vs.set i v) → WP l B Z n0 Q h' cs sl pc' ls st) : WP l B Z n0 Q h cs sl pc ls (v :: .ref a :: st) := by
  subst hp
  have hi : i < vs.length := by rw [← A.2.1]; exact (List.getElem?_eq_some_iff.mp h1).1
  refine WP.stepT (P := fun h' => Keep h h' [a] ∧ Ob Z h' a Cl lay (vs.set i v)) ?_ (fun h' q => H h' q.1 q.2)
  intro p e s m args below meth c T L C X hT N hn'
  obtain ⟨T1, h2, X1, e1, W1, stp⟩ := putF X C.1 C.2.1 C.2.2.1 (host := "") (Or.inl w) Via.refl hT (A.fld i h1 (List.getElem?_eq_getElem hi)) A.1 (hL.imp id fun q => ⟨q.1, q.2.1, C.2.2.2.2.2.2.2.trans q.2.2⟩) wi ht hnw hf (g := mkF m pc ls (v :: .ref a :: st)) rfl rfl (hb C.2.2.2.1 hd)
  exact ⟨T1, h2, _, X1, e1, Fr.snoc X1 N ha, by rw [W1.size]; exact hn', ⟨Keep.of_wr W1, A.put La hnd h1 W1⟩, stp⟩
theorem WP.newobj {idx k : Nat} (hd : decode B.bytes pc = .ok (.new idx, 3)) (w : (Cond.classLink B.own idx Cl).before a0 Z = true) (wi : (Cond.instantiable Cl k).before a0 Z = true) (wz : (Cond.initialized Cl).before a0 Z = true) (La : OLaids Z a0 Cl lay) (hvs : lay.map (fun q => (parseFieldDescriptor q.2.2).map defaultValue) = vs.map some) (hc : cs + 1 ≤ B.room.cells) (hs : sl + k ≤ B.room.slots) (hp : pc + 3 = pc')
    (H : ∀ b h', b = h.size → n0 ≤ b → Keep h h' [] → Ob Z h' b Cl lay vs → WP l B Z n0 Q h' (cs + 1) (sl + k) pc' ls (.ref b :: st)) : WP l B Z n0 Q h cs sl pc ls st := by
  subst hp
  refine WP.stepT (P := fun h' => Keep h h' [] ∧ n0 ≤ h.size ∧ Ob Z h' h.size Cl lay vs) ?_ (fun h' q => H h.size h' rfl q.2.1 q.1 q.2.2)
  intro p e s m args below meth c T L C X hT N hn'
  obtain ⟨T1, h1, X1, e1, E1, A1, D1, -, stp⟩ := newO X C.1 C.2.1 C.2.2.1 w wi wz hT (g := mkF m pc ls st) rfl (hb C.2.2.2.1 hd) hc hs
  refine ⟨T1, h1, L, X1, e1, N, Nat.le_trans hn' E1.1, ⟨Keep.of_ext E1, hn', A1, by simpa using congrArg List.length hvs, fun i O n d v g1 g2 => ?_⟩, stp⟩
  obtain ⟨l1, t1, p1⟩ := La _ (List.mem_of_getElem? g1)
  have k1 := congrArg (fun z => z[i]?) hvs
  simp only [List.getElem?_map, g1, g2, Option.map_some] at k1
  rw [show parseFieldDescriptor d = some t1 from p1] at k1
  simp only [Option.map_some, Option.some.injEq] at k1
  rw [← k1]
  exact D1 l1 p1
end W
end Jvm.OwnWP
namespace Jvm.OwnWP
open Sem ClassFile Op Lib Jvm.RoadKit
theorem own_r32 (x : Int32) : -2147483648 ≤ x.toInt ∧ x.toInt < 2147483648 := ⟨x.le_toInt, x.toInt_lt⟩
theorem own_r64 (x : Int64) : -9223372036854775808 ≤ x.toInt ∧ x.toInt < 9223372036854775808 := ⟨x.le_toInt, x.toInt_lt⟩
theorem own_iadd {x y : Int32} (h1 : -2147483648 ≤ x.toInt + y.toInt) (h2 : x.toInt + y.toInt < 2147483648) : (x + y).toInt = x.toInt + y.toInt := by have := c_iadd x y; have := own_r32 (x + y); omega
theorem own_isub {x y : Int32} (h1 : -2147483648 ≤ x.toInt - y.toInt) (h2 : x.toInt - y.toInt < 2147483648) : (x - y).toInt = x.toInt - y.toInt := by have := c_isub x y; have := own_r32 (x - y); omega
theorem own_ladd {x y : Int64} (h1 : -9223372036854775808 ≤ x.toInt + y.toInt) (h2 : x.toInt + y.toInt < 9223372036854775808) : (x + y).toInt = x.toInt + y.toInt := by have := c_ladd x y; have := own_r64 (x + y); omega
theorem own_lsub {x y : Int64} (h1 : -9223372036854775808 ≤ x.toInt - y.toInt) (h2 : x.toInt - y.toInt < 9223372036854775808) : (x - y).toInt = x.toInt - y.toInt := by have := c_lsub x y; have := own_r64 (x - y); omega
theorem own_mask (x m : Int32) (k : Nat) (P : Int) (hk : k ≤ 31) (hm : m.toBitVec.toNat = 2 ^ k - 1) (hP : ((2 ^ k : Nat) : Int) = P) : (x &&& m).toInt = x.toInt % P := by rw [← hP]; exact c_mask x m k hk hm
theorem own_maskL (x m : Int64) (k : Nat) (P : Int) (hk : k ≤ 63) (hm : m.toBitVec.toNat = 2 ^ k - 1) (hP : ((2 ^ k : Nat) : Int) = P) : (x &&& m).toInt = x.toInt % P := by rw [← hP]; exact c_maskL x m k hk hm
theorem own_irem {x y : Int32} {d : Int} (hy : y.toInt = d) (h0 : 0 ≤ x.toInt) : (x % y).toInt = x.toInt % d := (c_irem x y d hy).1 h0
theorem own_ushr (x q : Int32) (k : Nat) (P : Int) (hk : q.toBitVec.toNat % 32 = k) (h0 : 0 < k) (hP : ((2 ^ k : Nat) : Int) = P) : (ushr x q).toInt = (x.toInt % 4294967296) / P := by rw [← hP]; exact c_iushr x q k hk h0
theorem own_ishr (x q : Int32) (k : Nat) (P : Int) (hk : q.toBitVec.toNat % 32 = k) (hP : ((2 ^ k : Nat) : Int) = P) : (x >>> (q &&& 31)).toInt = x.toInt / P := by rw [← hP]; exact c_ishr x q k hk
theorem own_nar1 : nar .boolean 1 = 1 := by decide
theorem own_nar0 : nar .boolean 0 = 0 := by decide
theorem own_q1 : (some (Value.int (nar .boolean 1))) = some (Value.int 1) := congrArg (fun z => some (Value.int z)) own_nar1
theorem own_q0 : (some (Value.int (nar .boolean 0))) = some (Value.int 0) := congrArg (fun z => some (Value.int z)) own_nar0
theorem own_e32 {x y : Int32} (h : x.toInt = y.toInt) : x = y := Int32.toInt_inj.mp h
theorem own_e64 {x y : Int64} (h : x.toInt = y.toInt) : x = y := Int64.toInt_inj.mp h
end Jvm.OwnWP
namespace Jvm.OwnWP
theorem own_getI (xs : List Int32) (i : Nat) (h : i < xs.length) : ∃ y, (xs.map Value.int)[i]? = some (Value.int y) := ⟨xs[i], by simp [h]⟩
theorem own_getJ (xs : List Int64) (i : Nat) (h : i < xs.length) : ∃ y, (xs.map Value.long)[i]? = some (Value.long y) := ⟨xs[i], by simp [h]⟩
end Jvm.OwnWP
namespace Jvm.OwnWP
theorem own_nil {a : Addr} : a ∉ ([] : List Addr) := nofun
theorem own_cons {a b : Addr} {ws : List Addr} (h : a ≠ b) (h' : a ∉ ws) : a ∉ b :: ws := fun q => (List.mem_cons.mp q).elim h h'
end Jvm.OwnWP
namespace Jvm.OwnWP
theorem own_all0 {P : Addr → Prop} : ∀ x ∈ ([] : List Addr), P x := fun _ q => nomatch q
theorem own_all {P : Addr → Prop} {a : Addr} {ws : List Addr} (h : P a) (h' : ∀ x ∈ ws, P x) : ∀ x ∈ a :: ws, P x := fun x q => (List.mem_cons.mp q).elim (fun e => e ▸ h) (h' x)
end Jvm.OwnWP
namespace Jvm.OwnWP
open Sem ClassFile Op Lib Jvm.Stand Jvm.Free Jvm.LawKit Jvm.RoadKit
def own_fill : List Value → List Slot
  | [] => []
  | v :: r => if v.category = 2 then .val v :: .second :: own_fill r else .val v :: own_fill r
def own_push (acc : Array Slot) (v : Value) : Array Slot := if v.category = 2 then (acc.push (Slot.val v)).push Slot.second else acc.push (Slot.val v)
theorem own_fold (as : List Value) (acc : Array Slot) : as.foldl own_push acc = acc ++ (own_fill as).toArray := by
  induction as generalizing acc with
  | nil => simp [own_fill]
  | cons v r ih =>
    simp only [List.foldl_cons, own_fill]
    rw [ih]
    unfold own_push
    split <;> simp
theorem own_entry {m : MethodId} {as : List Value} {n : Nat} {fs : List Slot} (k : Nat) (h1 : own_fill as = fs) (h2 : fs.length + k = n) : entryFrame m as.toArray n = mkF m 0 (fs ++ List.replicate k Slot.unset).toArray [] := by
  subst h1 h2
  have e0 : as.toArray.foldl own_push #[] = (own_fill as).toArray := by
    simp only [List.size_toArray, List.foldl_toArray']
    rw [own_fold]; simp
  have e : argsToLocals as.toArray ((own_fill as).length + k) = (own_fill as ++ List.replicate k Slot.unset).toArray := by
    show as.toArray.foldl own_push #[] ++ Array.replicate ((own_fill as).length + k - (as.toArray.foldl own_push #[]).size) Slot.unset = _
    rw [e0]
    simp
  show ({ method := m, pc := 0, locals := argsToLocals as.toArray ((own_fill as).length + k), stack := [], locked := none } : JFrame) = _
  rw [e]
end Jvm.OwnWP
namespace Jvm.OwnWP
theorem own_nz {y : Int32} (h : y.toInt ≠ 0) : y ≠ 0 := fun q => h (by rw [q]; rfl)
theorem own_nzL {y : Int64} (h : y.toInt ≠ 0) : y ≠ 0 := fun q => h (by rw [q]; rfl)
end Jvm.OwnWP
namespace Jvm.OwnWP
open Sem ClassFile Op Lib Jvm.Stand Jvm.Free Jvm.LawKit Jvm.RoadKit
section W
variable {l : Launch} {B : Bod} {Z : State} {n0 : Nat} {Q : Option Value → Heap → Prop} {h : Heap} {cs sl pc pc' : Nat} {ls ls' : Array Slot} {st rest : List Value} {a0 : Array Value}
/-- a private method by invokevirtual; that its class is no interface is read off another 'selects' word of that class -/
theorem WP.callP {y y0 : MethodName} {By : Bod} {Cl : String} {as : List Value} {a : Addr} {idx : Nat} {Qy : Option Value → Heap → Prop} {ps : List FieldType} {r : Option FieldType}
    (hd : decode B.bytes pc = .ok (.invokevirtual idx, 3)) (w1 : (Cond.methodLink B.own idx y).before a0 Z = true) (w2 : (Cond.instanceMethod y).before a0 Z = true) (w5 : (Cond.privateMethod y).before a0 Z = true) (w6 : (Cond.selects Cl y0 y0).before a0 Z = true) (w3 : (Cond.initialized y.cls).before a0 Z = true) (w4 : (Cond.code y By.bytes By.maxL By.ret).before a0 Z = true) (hcl : y0.cls = y.cls)
    (hy : y.cls ≠ "java/lang/invoke/MethodHandle" ∧ y.cls ≠ "java/lang/invoke/VarHandle") {Ce : String} (E : Exa Z h a Ce) (hM : OMet l y By Z n0 (.ref a :: as).toArray h Qy) (hpd : parseMethodDescriptor y.desc = some ⟨ps, r⟩) (hlen : as.length = ps.length) (hst : st = as.reverse ++ .ref a :: rest) (hls : ls.size = B.maxL)
    (hfr : By.room.frames + 1 ≤ B.room.frames) (hlo : (rest.map fun v => v.category).sum + (By.maxL + 11) + By.room.locals ≤ B.room.locals) (hc : cs + By.room.cells ≤ B.room.cells) (hs : sl + By.room.slots ≤ B.room.slots) (hp : pc + 3 = pc')
    (H : ∀ v h', Qy v h' → WP l B Z n0 Q h' (cs + By.room.cells) (sl + By.room.slots) pc' ls (v.toList ++ rest)) : WP l B Z n0 Q h cs sl pc ls st := by
  subst hp
  intro p e s m args below meth c T L C X hT N hn
  obtain ⟨hx, hZ, hown, hby, hml, hret, hlk, hnm⟩ := C
  obtain ⟨cq, q1, q2⟩ := E.cell
  have hpr : s.PrivateAt y := Cond.privateMethod_at (mvP hZ w5 (args := #[]))
  have hsel : (Cond.selects y.cls y y).before args s = true := by
    obtain ⟨c2, r2, m2, -, -, q3, -, kP, hkP, hkPi⟩ := Cond.selects_spec (mvT (args := args) hZ w6)
    have hc2 := findClass_of_methodNamed q3
    rw [hcl] at hc2
    exact selects_self_of_private hc2 hkP hkPi hpr (mvT hZ w2) hy
  obtain ⟨v, _, ⟨T1, L1, k1, n1⟩, -, X1, ⟨Lc, hQ, l1, y1, z1⟩, stp⟩ := X.privateBack hx (y := y) hown (mvT hZ w1) (mvT hZ w2) hsel hpr (mvT hZ w4) hy (backOf (W := (rest.map fun v => v.category).sum) (Q := fun v h' L => Qy v h' ∧ Fr n0 L ∧ n0 ≤ h'.size) (hM hn []) hZ w4 w3 hfr hlo) (g := mkF m pc ls st) rfl (by rw [hml]; exact hls) (Steps.refl _) (a := a) (cell := cq) (by rw [hT]; exact q1) q2 (argsL := as) (rest := rest) (lenOf hpd hlen) hst (by show 2 * 0 + _ ≤ _; omega) (hb hby hd) (fun _ _ => ⟨rfl, hT, hc, hs⟩)
  dsimp only [Pt.U, Pt.locs, Pt.cells, Pt.slots] at X1 l1 y1 z1 stp hQ
  subst l1 y1 z1
  obtain ⟨U, v', L', a1, rr⟩ := H v T1.heap hQ.1 p e s m args below meth c T1 _ ⟨hx, hZ, hown, hby, hml, hret, hlk, hnm⟩ X1 rfl (N.app hQ.2.1) hQ.2.2
  exact ⟨U, v', L', stp.trans a1, rr⟩
end W
end Jvm.OwnWP
namespace Jvm.OwnWP
open Sem ClassFile Op Lib Jvm.RoadKit
theorem own_narR {v : Value} {C : String} (h : v.isRef = true) : narrow (.object C) v = v := by rcases ref_cases h with rfl | ⟨a, rfl⟩ <;> rfl
theorem own_fitR {v : Value} {C : String} (h : v.isRef = true) : fits (.object C) v = true := by rcases ref_cases h with rfl | ⟨a, rfl⟩ <;> rfl
theorem own_catR {v : Value} (h : v.isRef = true) : v.category = 1 := by rcases ref_cases h with rfl | ⟨a, rfl⟩ <;> rfl
end Jvm.OwnWP


namespace Jvm.Pilot.@@N@@
open Jvm Jvm.ClassFile Sem Op Lib Jvm.Free Jvm.Stand Jvm.LawKit Jvm.RoadKit Jvm.OwnWP Bundle Jvm.Pilot.@@N@@.Jvm.D

abbrev HW (Z : State) (a0 : Array Value) : Prop := ∀ d ∈ tables_1, d.before a0 Z = true
theorem w0 {Z : State} {a0 : Array Value} (hw : HW Z a0) : ((Jvm.Cond.classLink "com/example/apportion/apportion/JobsByStartFirstPinLaw" (16 : Nat) "com/example/apportion/apportion/JobsByStart")).before a0 Z = true := hw _ (List.mem_of_getElem? (i := 0) rfl)
theorem w1 {Z : State} {a0 : Array Value} (hw : HW Z a0) : ((Jvm.Cond.instantiable "com/example/apportion/apportion/JobsByStart" (1 : Nat))).before a0 Z = true := hw _ (List.mem_of_getElem? (i := 1) rfl)
theorem w2 {Z : State} {a0 : Array Value} (hw : HW Z a0) : ((Jvm.Cond.initialized "com/example/apportion/apportion/JobsByStart")).before a0 Z = true := hw _ (List.mem_of_getElem? (i := 2) rfl)
theorem w3 {Z : State} {a0 : Array Value} (hw : HW Z a0) : ((Jvm.Cond.methodLink "com/example/apportion/apportion/JobsByStartFirstPinLaw" (18 : Nat) ({ cls := "com/example/apportion/apportion/JobsByStart", name := "<init>", desc := "()V" } : Jvm.MethodName))).before a0 Z = true := hw _ (List.mem_of_getElem? (i := 3) rfl)
theorem w4 {Z : State} {a0 : Array Value} (hw : HW Z a0) : ((Jvm.Cond.instanceMethod ({ cls := "com/example/apportion/apportion/JobsByStart", name := "<init>", desc := "()V" } : Jvm.MethodName))).before a0 Z = true := hw _ (List.mem_of_getElem? (i := 4) rfl)
theorem w5 {Z : State} {a0 : Array Value} (hw : HW Z a0) : ((Jvm.Cond.code ({ cls := "com/example/apportion/apportion/JobsByStart", name := "<init>", desc := "()V" } : Jvm.MethodName) prog_103_method_1_code (1 : Nat) (Option.none : Option Jvm.ClassFile.FieldType))).before a0 Z = true := hw _ (List.mem_of_getElem? (i := 5) rfl)
theorem w6 {Z : State} {a0 : Array Value} (hw : HW Z a0) : ((Jvm.Cond.methodLink "com/example/apportion/apportion/JobsByStart" (1 : Nat) ({ cls := "java/lang/Object", name := "<init>", desc := "()V" } : Jvm.MethodName))).before a0 Z = true := hw _ (List.mem_of_getElem? (i := 6) rfl)
theorem w7 {Z : State} {a0 : Array Value} (hw : HW Z a0) : ((Jvm.Cond.instanceMethod ({ cls := "java/lang/Object", name := "<init>", desc := "()V" } : Jvm.MethodName))).before a0 Z = true := hw _ (List.mem_of_getElem? (i := 7) rfl)
theorem w8 {Z : State} {a0 : Array Value} (hw : HW Z a0) : ((Jvm.Cond.code ({ cls := "java/lang/Object", name := "<init>", desc := "()V" } : Jvm.MethodName) object_method_1_code (1 : Nat) (Option.none : Option Jvm.ClassFile.FieldType))).before a0 Z = true := hw _ (List.mem_of_getElem? (i := 8) rfl)
theorem w9 {Z : State} {a0 : Array Value} (hw : HW Z a0) : ((Jvm.Cond.classLink "com/example/apportion/apportion/JobsByStartFirstPinLaw" (19 : Nat) "com/example/apportion/apportion/Request")).before a0 Z = true := hw _ (List.mem_of_getElem? (i := 9) rfl)
theorem w10 {Z : State} {a0 : Array Value} (hw : HW Z a0) : ((Jvm.Cond.instantiable "com/example/apportion/apportion/Request" (7 : Nat))).before a0 Z = true := hw _ (List.mem_of_getElem? (i := 10) rfl)
theorem w11 {Z : State} {a0 : Array Value} (hw : HW Z a0) : ((Jvm.Cond.initialized "com/example/apportion/apportion/Request")).before a0 Z = true := hw _ (List.mem_of_getElem? (i := 11) rfl)
theorem w12 {Z : State} {a0 : Array Value} (hw : HW Z a0) : ((Jvm.Cond.methodLink "com/example/apportion/apportion/JobsByStartFirstPinLaw" (21 : Nat) ({ cls := "com/example/apportion/apportion/Request", name := "<init>", desc := "(Ljava/lang/String;JJJJLjava/math/BigInteger;)V" } : Jvm.MethodName))).before a0 Z = true := hw _ (List.mem_of_getElem? (i := 12) rfl)
theorem w13 {Z : State} {a0 : Array Value} (hw : HW Z a0) : ((Jvm.Cond.instanceMethod ({ cls := "com/example/apportion/apportion/Request", name := "<init>", desc := "(Ljava/lang/String;JJJJLjava/math/BigInteger;)V" } : Jvm.MethodName))).before a0 Z = true := hw _ (List.mem_of_getElem? (i := 13) rfl)
theorem w14 {Z : State} {a0 : Array Value} (hw : HW Z a0) : ((Jvm.Cond.code ({ cls := "com/example/apportion/apportion/Request", name := "<init>", desc := "(Ljava/lang/String;JJJJLjava/math/BigInteger;)V" } : Jvm.MethodName) prog_148_method_1_code (11 : Nat) (Option.none : Option Jvm.ClassFile.FieldType))).before a0 Z = true := hw _ (List.mem_of_getElem? (i := 14) rfl)
theorem w15 {Z : State} {a0 : Array Value} (hw : HW Z a0) : ((Jvm.Cond.constantLong "com/example/apportion/apportion/Request" (36 : Nat) (9223372036854775807 : Int64))).before a0 Z = true := hw _ (List.mem_of_getElem? (i := 15) rfl)
theorem w16 {Z : State} {a0 : Array Value} (hw : HW Z a0) : ((Jvm.Cond.methodLink "com/example/apportion/apportion/Request" (38 : Nat) ({ cls := "com/example/apportion/apportion/Request", name := "<init>", desc := "(Ljava/lang/String;JJJJLjava/math/BigInteger;Z)V" } : Jvm.MethodName))).before a0 Z = true := hw _ (List.mem_of_getElem? (i := 16) rfl)
theorem w17 {Z : State} {a0 : Array Value} (hw : HW Z a0) : ((Jvm.Cond.instanceMethod ({ cls := "com/example/apportion/apportion/Request", name := "<init>", desc := "(Ljava/lang/String;JJJJLjava/math/BigInteger;Z)V" } : Jvm.MethodName))).before a0 Z = true := hw _ (List.mem_of_getElem? (i := 17) rfl)
theorem w18 {Z : State} {a0 : Array Value} (hw : HW Z a0) : ((Jvm.Cond.code ({ cls := "com/example/apportion/apportion/Request", name := "<init>", desc := "(Ljava/lang/String;JJJJLjava/math/BigInteger;Z)V" } : Jvm.MethodName) prog_148_method_2_code (12 : Nat) (Option.none : Option Jvm.ClassFile.FieldType))).before a0 Z = true := hw _ (List.mem_of_getElem? (i := 18) rfl)
theorem w19 {Z : State} {a0 : Array Value} (hw : HW Z a0) : ((Jvm.Cond.methodLink "com/example/apportion/apportion/Request" (3 : Nat) ({ cls := "java/lang/Record", name := "<init>", desc := "()V" } : Jvm.MethodName))).before a0 Z = true := hw _ (List.mem_of_getElem? (i := 19) rfl)
theorem w20 {Z : State} {a0 : Array Value} (hw : HW Z a0) : ((Jvm.Cond.instanceMethod ({ cls := "java/lang/Record", name := "<init>", desc := "()V" } : Jvm.MethodName))).before a0 Z = true := hw _ (List.mem_of_getElem? (i := 20) rfl)
theorem w22 {Z : State} {a0 : Array Value} (hw : HW Z a0) : ((Jvm.Cond.initialized "java/lang/Record")).before a0 Z = true := hw _ (List.mem_of_getElem? (i := 22) rfl)
theorem w23 {Z : State} {a0 : Array Value} (hw : HW Z a0) : ((Jvm.Cond.code ({ cls := "java/lang/Record", name := "<init>", desc := "()V" } : Jvm.MethodName) jdk_30_method_1_code (1 : Nat) (Option.none : Option Jvm.ClassFile.FieldType))).before a0 Z = true := hw _ (List.mem_of_getElem? (i := 23) rfl)
theorem w24 {Z : State} {a0 : Array Value} (hw : HW Z a0) : ((Jvm.Cond.methodLink "java/lang/Record" (1 : Nat) ({ cls := "java/lang/Object", name := "<init>", desc := "()V" } : Jvm.MethodName))).before a0 Z = true := hw _ (List.mem_of_getElem? (i := 24) rfl)
theorem w25 {Z : State} {a0 : Array Value} (hw : HW Z a0) : ((Jvm.Cond.fieldLink "com/example/apportion/apportion/Request" (9 : Nat) "com/example/apportion/apportion/Request" "id" "Ljava/lang/String;")).before a0 Z = true := hw _ (List.mem_of_getElem? (i := 25) rfl)
theorem w26 {Z : State} {a0 : Array Value} (hw : HW Z a0) : ((Jvm.Cond.laysFinal "com/example/apportion/apportion/Request" "com/example/apportion/apportion/Request" "id" "Ljava/lang/String;")).before a0 Z = true := hw _ (List.mem_of_getElem? (i := 26) rfl)
theorem w27 {Z : State} {a0 : Array Value} (hw : HW Z a0) : ((Jvm.Cond.fieldLink "com/example/apportion/apportion/Request" (15 : Nat) "com/example/apportion/apportion/Request" "arrival" "J")).before a0 Z = true := hw _ (List.mem_of_getElem? (i := 27) rfl)
theorem w28 {Z : State} {a0 : Array Value} (hw : HW Z a0) : ((Jvm.Cond.laysFinal "com/example/apportion/apportion/Request" "com/example/apportion/apportion/Request" "arrival" "J")).before a0 Z = true := hw _ (List.mem_of_getElem? (i := 28) rfl)
theorem w29 {Z : State} {a0 : Array Value} (hw : HW Z a0) : ((Jvm.Cond.fieldLink "com/example/apportion/apportion/Request" (19 : Nat) "com/example/apportion/apportion/Request" "ready" "J")).before a0 Z = true := hw _ (List.mem_of_getElem? (i := 29) rfl)
theorem w30 {Z : State} {a0 : Array Value} (hw : HW Z a0) : ((Jvm.Cond.laysFinal "com/example/apportion/apportion/Request" "com/example/apportion/apportion/Request" "ready" "J")).before a0 Z = true := hw _ (List.mem_of_getElem? (i := 30) rfl)
theorem w31 {Z : State} {a0 : Array Value} (hw : HW Z a0) : ((Jvm.Cond.fieldLink "com/example/apportion/apportion/Request" (22 : Nat) "com/example/apportion/apportion/Request" "length" "J")).before a0 Z = true := hw _ (List.mem_of_getElem? (i := 31) rfl)
theorem w32 {Z : State} {a0 : Array Value} (hw : HW Z a0) : ((Jvm.Cond.laysFinal "com/example/apportion/apportion/Request" "com/example/apportion/apportion/Request" "length" "J")).before a0 Z = true := hw _ (List.mem_of_getElem? (i := 32) rfl)
theorem w33 {Z : State} {a0 : Array Value} (hw : HW Z a0) : ((Jvm.Cond.fieldLink "com/example/apportion/apportion/Request" (25 : Nat) "com/example/apportion/apportion/Request" "deadline" "J")).before a0 Z = true := hw _ (List.mem_of_getElem? (i := 33) rfl)
theorem w34 {Z : State} {a0 : Array Value} (hw : HW Z a0) : ((Jvm.Cond.laysFinal "com/example/apportion/apportion/Request" "com/example/apportion/apportion/Request" "deadline" "J")).before a0 Z = true := hw _ (List.mem_of_getElem? (i := 34) rfl)
theorem w35 {Z : State} {a0 : Array Value} (hw : HW Z a0) : ((Jvm.Cond.fieldLink "com/example/apportion/apportion/Request" (28 : Nat) "com/example/apportion/apportion/Request" "servers" "Ljava/math/BigInteger;")).before a0 Z = true := hw _ (List.mem_of_getElem? (i := 35) rfl)
theorem w36 {Z : State} {a0 : Array Value} (hw : HW Z a0) : ((Jvm.Cond.laysFinal "com/example/apportion/apportion/Request" "com/example/apportion/apportion/Request" "servers" "Ljava/math/BigInteger;")).before a0 Z = true := hw _ (List.mem_of_getElem? (i := 36) rfl)
theorem w37 {Z : State} {a0 : Array Value} (hw : HW Z a0) : ((Jvm.Cond.fieldLink "com/example/apportion/apportion/Request" (32 : Nat) "com/example/apportion/apportion/Request" "hasDeadline" "Z")).before a0 Z = true := hw _ (List.mem_of_getElem? (i := 37) rfl)
theorem w38 {Z : State} {a0 : Array Value} (hw : HW Z a0) : ((Jvm.Cond.laysFinal "com/example/apportion/apportion/Request" "com/example/apportion/apportion/Request" "hasDeadline" "Z")).before a0 Z = true := hw _ (List.mem_of_getElem? (i := 38) rfl)
theorem w39 {Z : State} {a0 : Array Value} (hw : HW Z a0) : ((Jvm.Cond.classLink "com/example/apportion/apportion/JobsByStartFirstPinLaw" (8 : Nat) "com/example/apportion/apportion/GridJob")).before a0 Z = true := hw _ (List.mem_of_getElem? (i := 39) rfl)
theorem w40 {Z : State} {a0 : Array Value} (hw : HW Z a0) : ((Jvm.Cond.instantiable "com/example/apportion/apportion/GridJob" (12 : Nat))).before a0 Z = true := hw _ (List.mem_of_getElem? (i := 40) rfl)
theorem w41 {Z : State} {a0 : Array Value} (hw : HW Z a0) : ((Jvm.Cond.initialized "com/example/apportion/apportion/GridJob")).before a0 Z = true := hw _ (List.mem_of_getElem? (i := 41) rfl)
theorem w42 {Z : State} {a0 : Array Value} (hw : HW Z a0) : ((Jvm.Cond.methodLink "com/example/apportion/apportion/JobsByStartFirstPinLaw" (24 : Nat) ({ cls := "com/example/apportion/apportion/GridJob", name := "<init>", desc := "(JLcom/example/apportion/apportion/Request;I)V" } : Jvm.MethodName))).before a0 Z = true := hw _ (List.mem_of_getElem? (i := 42) rfl)
theorem w43 {Z : State} {a0 : Array Value} (hw : HW Z a0) : ((Jvm.Cond.instanceMethod ({ cls := "com/example/apportion/apportion/GridJob", name := "<init>", desc := "(JLcom/example/apportion/apportion/Request;I)V" } : Jvm.MethodName))).before a0 Z = true := hw _ (List.mem_of_getElem? (i := 43) rfl)
theorem w44 {Z : State} {a0 : Array Value} (hw : HW Z a0) : ((Jvm.Cond.code ({ cls := "com/example/apportion/apportion/GridJob", name := "<init>", desc := "(JLcom/example/apportion/apportion/Request;I)V" } : Jvm.MethodName) prog_79_method_1_code (5 : Nat) (Option.none : Option Jvm.ClassFile.FieldType))).before a0 Z = true := hw _ (List.mem_of_getElem? (i := 44) rfl)
theorem w45 {Z : State} {a0 : Array Value} (hw : HW Z a0) : ((Jvm.Cond.methodLink "com/example/apportion/apportion/GridJob" (1 : Nat) ({ cls := "java/lang/Object", name := "<init>", desc := "()V" } : Jvm.MethodName))).before a0 Z = true := hw _ (List.mem_of_getElem? (i := 45) rfl)
theorem w46 {Z : State} {a0 : Array Value} (hw : HW Z a0) : ((Jvm.Cond.fieldLink "com/example/apportion/apportion/GridJob" (7 : Nat) "com/example/apportion/apportion/GridJob" "machine" "I")).before a0 Z = true := hw _ (List.mem_of_getElem? (i := 46) rfl)
theorem w47 {Z : State} {a0 : Array Value} (hw : HW Z a0) : ((Jvm.Cond.lays "com/example/apportion/apportion/GridJob" "com/example/apportion/apportion/GridJob" "machine" "I")).before a0 Z = true := hw _ (List.mem_of_getElem? (i := 47) rfl)
theorem w48 {Z : State} {a0 : Array Value} (hw : HW Z a0) : ((Jvm.Cond.fieldLink "com/example/apportion/apportion/GridJob" (13 : Nat) "com/example/apportion/apportion/GridJob" "number" "J")).before a0 Z = true := hw _ (List.mem_of_getElem? (i := 48) rfl)
theorem w49 {Z : State} {a0 : Array Value} (hw : HW Z a0) : ((Jvm.Cond.laysFinal "com/example/apportion/apportion/GridJob" "com/example/apportion/apportion/GridJob" "number" "J")).before a0 Z = true := hw _ (List.mem_of_getElem? (i := 49) rfl)
theorem w50 {Z : State} {a0 : Array Value} (hw : HW Z a0) : ((Jvm.Cond.methodLink "com/example/apportion/apportion/GridJob" (17 : Nat) ({ cls := "com/example/apportion/apportion/Request", name := "id", desc := "()Ljava/lang/String;" } : Jvm.MethodName))).before a0 Z = true := hw _ (List.mem_of_getElem? (i := 50) rfl)
theorem w51 {Z : State} {a0 : Array Value} (hw : HW Z a0) : ((Jvm.Cond.declares ({ cls := "com/example/apportion/apportion/Request", name := "id", desc := "()Ljava/lang/String;" } : Jvm.MethodName))).before a0 Z = true := hw _ (List.mem_of_getElem? (i := 51) rfl)
theorem w52 {Z : State} {a0 : Array Value} (hw : HW Z a0) : ((Jvm.Cond.instanceMethod ({ cls := "com/example/apportion/apportion/Request", name := "id", desc := "()Ljava/lang/String;" } : Jvm.MethodName))).before a0 Z = true := hw _ (List.mem_of_getElem? (i := 52) rfl)
theorem w53 {Z : State} {a0 : Array Value} (hw : HW Z a0) : ((Jvm.Cond.selects "com/example/apportion/apportion/Request" ({ cls := "com/example/apportion/apportion/Request", name := "id", desc := "()Ljava/lang/String;" } : Jvm.MethodName) ({ cls := "com/example/apportion/apportion/Request", name := "id", desc := "()Ljava/lang/String;" } : Jvm.MethodName))).before a0 Z = true := hw _ (List.mem_of_getElem? (i := 53) rfl)
theorem w54 {Z : State} {a0 : Array Value} (hw : HW Z a0) : ((Jvm.Cond.code ({ cls := "com/example/apportion/apportion/Request", name := "id", desc := "()Ljava/lang/String;" } : Jvm.MethodName) prog_148_method_15_code (1 : Nat) (Option.some (Jvm.ClassFile.FieldType.object "java/lang/String")))).before a0 Z = true := hw _ (List.mem_of_getElem? (i := 54) rfl)
theorem w55 {Z : State} {a0 : Array Value} (hw : HW Z a0) : ((Jvm.Cond.fieldLink "com/example/apportion/apportion/GridJob" (23 : Nat) "com/example/apportion/apportion/GridJob" "id" "Ljava/lang/String;")).before a0 Z = true := hw _ (List.mem_of_getElem? (i := 55) rfl)
theorem w56 {Z : State} {a0 : Array Value} (hw : HW Z a0) : ((Jvm.Cond.laysFinal "com/example/apportion/apportion/GridJob" "com/example/apportion/apportion/GridJob" "id" "Ljava/lang/String;")).before a0 Z = true := hw _ (List.mem_of_getElem? (i := 56) rfl)
theorem w57 {Z : State} {a0 : Array Value} (hw : HW Z a0) : ((Jvm.Cond.methodLink "com/example/apportion/apportion/GridJob" (26 : Nat) ({ cls := "com/example/apportion/apportion/Request", name := "arrival", desc := "()J" } : Jvm.MethodName))).before a0 Z = true := hw _ (List.mem_of_getElem? (i := 57) rfl)
theorem w58 {Z : State} {a0 : Array Value} (hw : HW Z a0) : ((Jvm.Cond.declares ({ cls := "com/example/apportion/apportion/Request", name := "arrival", desc := "()J" } : Jvm.MethodName))).before a0 Z = true := hw _ (List.mem_of_getElem? (i := 58) rfl)
theorem w59 {Z : State} {a0 : Array Value} (hw : HW Z a0) : ((Jvm.Cond.instanceMethod ({ cls := "com/example/apportion/apportion/Request", name := "arrival", desc := "()J" } : Jvm.MethodName))).before a0 Z = true := hw _ (List.mem_of_getElem? (i := 59) rfl)
theorem w60 {Z : State} {a0 : Array Value} (hw : HW Z a0) : ((Jvm.Cond.selects "com/example/apportion/apportion/Request" ({ cls := "com/example/apportion/apportion/Request", name := "arrival", desc := "()J" } : Jvm.MethodName) ({ cls := "com/example/apportion/apportion/Request", name := "arrival", desc := "()J" } : Jvm.MethodName))).before a0 Z = true := hw _ (List.mem_of_getElem? (i := 60) rfl)
theorem w61 {Z : State} {a0 : Array Value} (hw : HW Z a0) : ((Jvm.Cond.code ({ cls := "com/example/apportion/apportion/Request", name := "arrival", desc := "()J" } : Jvm.MethodName) prog_148_method_16_code (1 : Nat) (Option.some Jvm.ClassFile.FieldType.long))).before a0 Z = true := hw _ (List.mem_of_getElem? (i := 61) rfl)
theorem w62 {Z : State} {a0 : Array Value} (hw : HW Z a0) : ((Jvm.Cond.fieldLink "com/example/apportion/apportion/GridJob" (30 : Nat) "com/example/apportion/apportion/GridJob" "arrival" "J")).before a0 Z = true := hw _ (List.mem_of_getElem? (i := 62) rfl)
theorem w63 {Z : State} {a0 : Array Value} (hw : HW Z a0) : ((Jvm.Cond.laysFinal "com/example/apportion/apportion/GridJob" "com/example/apportion/apportion/GridJob" "arrival" "J")).before a0 Z = true := hw _ (List.mem_of_getElem? (i := 63) rfl)
theorem w64 {Z : State} {a0 : Array Value} (hw : HW Z a0) : ((Jvm.Cond.methodLink "com/example/apportion/apportion/GridJob" (32 : Nat) ({ cls := "com/example/apportion/apportion/Request", name := "ready", desc := "()J" } : Jvm.MethodName))).before a0 Z = true := hw _ (List.mem_of_getElem? (i := 64) rfl)
theorem w65 {Z : State} {a0 : Array Value} (hw : HW Z a0) : ((Jvm.Cond.declares ({ cls := "com/example/apportion/apportion/Request", name := "ready", desc := "()J" } : Jvm.MethodName))).before a0 Z = true := hw _ (List.mem_of_getElem? (i := 65) rfl)
theorem w66 {Z : State} {a0 : Array Value} (hw : HW Z a0) : ((Jvm.Cond.instanceMethod ({ cls := "com/example/apportion/apportion/Request", name := "ready", desc := "()J" } : Jvm.MethodName))).before a0 Z = true := hw _ (List.mem_of_getElem? (i := 66) rfl)
theorem w67 {Z : State} {a0 : Array Value} (hw : HW Z a0) : ((Jvm.Cond.selects "com/example/apportion/apportion/Request" ({ cls := "com/example/apportion/apportion/Request", name := "ready", desc := "()J" } : Jvm.MethodName) ({ cls := "com/example/apportion/apportion/Request", name := "ready", desc := "()J" } : Jvm.MethodName))).before a0 Z = true := hw _ (List.mem_of_getElem? (i := 67) rfl)
theorem w68 {Z : State} {a0 : Array Value} (hw : HW Z a0) : ((Jvm.Cond.code ({ cls := "com/example/apportion/apportion/Request", name := "ready", desc := "()J" } : Jvm.MethodName) prog_148_method_17_code (1 : Nat) (Option.some Jvm.ClassFile.FieldType.long))).before a0 Z = true := hw _ (List.mem_of_getElem? (i := 68) rfl)
theorem w69 {Z : State} {a0 : Array Value} (hw : HW Z a0) : ((Jvm.Cond.fieldLink "com/example/apportion/apportion/GridJob" (35 : Nat) "com/example/apportion/apportion/GridJob" "ready" "J")).before a0 Z = true := hw _ (List.mem_of_getElem? (i := 69) rfl)
theorem w70 {Z : State} {a0 : Array Value} (hw : HW Z a0) : ((Jvm.Cond.laysFinal "com/example/apportion/apportion/GridJob" "com/example/apportion/apportion/GridJob" "ready" "J")).before a0 Z = true := hw _ (List.mem_of_getElem? (i := 70) rfl)
theorem w71 {Z : State} {a0 : Array Value} (hw : HW Z a0) : ((Jvm.Cond.methodLink "com/example/apportion/apportion/GridJob" (37 : Nat) ({ cls := "com/example/apportion/apportion/Request", name := "length", desc := "()J" } : Jvm.MethodName))).before a0 Z = true := hw _ (List.mem_of_getElem? (i := 71) rfl)
theorem w72 {Z : State} {a0 : Array Value} (hw : HW Z a0) : ((Jvm.Cond.declares ({ cls := "com/example/apportion/apportion/Request", name := "length", desc := "()J" } : Jvm.MethodName))).before a0 Z = true := hw _ (List.mem_of_getElem? (i := 72) rfl)
theorem w73 {Z : State} {a0 : Array Value} (hw : HW Z a0) : ((Jvm.Cond.instanceMethod ({ cls := "com/example/apportion/apportion/Request", name := "length", desc := "()J" } : Jvm.MethodName))).before a0 Z = true := hw _ (List.mem_of_getElem? (i := 73) rfl)
theorem w74 {Z : State} {a0 : Array Value} (hw : HW Z a0) : ((Jvm.Cond.selects "com/example/apportion/apportion/Request" ({ cls := "com/example/apportion/apportion/Request", name := "length", desc := "()J" } : Jvm.MethodName) ({ cls := "com/example/apportion/apportion/Request", name := "length", desc := "()J" } : Jvm.MethodName))).before a0 Z = true := hw _ (List.mem_of_getElem? (i := 74) rfl)
theorem w75 {Z : State} {a0 : Array Value} (hw : HW Z a0) : ((Jvm.Cond.code ({ cls := "com/example/apportion/apportion/Request", name := "length", desc := "()J" } : Jvm.MethodName) prog_148_method_18_code (1 : Nat) (Option.some Jvm.ClassFile.FieldType.long))).before a0 Z = true := hw _ (List.mem_of_getElem? (i := 75) rfl)
theorem w76 {Z : State} {a0 : Array Value} (hw : HW Z a0) : ((Jvm.Cond.fieldLink "com/example/apportion/apportion/GridJob" (40 : Nat) "com/example/apportion/apportion/GridJob" "length" "J")).before a0 Z = true := hw _ (List.mem_of_getElem? (i := 76) rfl)
theorem w77 {Z : State} {a0 : Array Value} (hw : HW Z a0) : ((Jvm.Cond.laysFinal "com/example/apportion/apportion/GridJob" "com/example/apportion/apportion/GridJob" "length" "J")).before a0 Z = true := hw _ (List.mem_of_getElem? (i := 77) rfl)
theorem w78 {Z : State} {a0 : Array Value} (hw : HW Z a0) : ((Jvm.Cond.methodLink "com/example/apportion/apportion/GridJob" (42 : Nat) ({ cls := "com/example/apportion/apportion/Request", name := "deadline", desc := "()J" } : Jvm.MethodName))).before a0 Z = true := hw _ (List.mem_of_getElem? (i := 78) rfl)
theorem w79 {Z : State} {a0 : Array Value} (hw : HW Z a0) : ((Jvm.Cond.declares ({ cls := "com/example/apportion/apportion/Request", name := "deadline", desc := "()J" } : Jvm.MethodName))).before a0 Z = true := hw _ (List.mem_of_getElem? (i := 79) rfl)
theorem w80 {Z : State} {a0 : Array Value} (hw : HW Z a0) : ((Jvm.Cond.instanceMethod ({ cls := "com/example/apportion/apportion/Request", name := "deadline", desc := "()J" } : Jvm.MethodName))).before a0 Z = true := hw _ (List.mem_of_getElem? (i := 80) rfl)
theorem w81 {Z : State} {a0 : Array Value} (hw : HW Z a0) : ((Jvm.Cond.selects "com/example/apportion/apportion/Request" ({ cls := "com/example/apportion/apportion/Request", name := "deadline", desc := "()J" } : Jvm.MethodName) ({ cls := "com/example/apportion/apportion/Request", name := "deadline", desc := "()J" } : Jvm.MethodName))).before a0 Z = true := hw _ (List.mem_of_getElem? (i := 81) rfl)
theorem w82 {Z : State} {a0 : Array Value} (hw : HW Z a0) : ((Jvm.Cond.code ({ cls := "com/example/apportion/apportion/Request", name := "deadline", desc := "()J" } : Jvm.MethodName) prog_148_method_19_code (1 : Nat) (Option.some Jvm.ClassFile.FieldType.long))).before a0 Z = true := hw _ (List.mem_of_getElem? (i := 82) rfl)
theorem w83 {Z : State} {a0 : Array Value} (hw : HW Z a0) : ((Jvm.Cond.fieldLink "com/example/apportion/apportion/GridJob" (45 : Nat) "com/example/apportion/apportion/GridJob" "deadline" "J")).before a0 Z = true := hw _ (List.mem_of_getElem? (i := 83) rfl)
theorem w84 {Z : State} {a0 : Array Value} (hw : HW Z a0) : ((Jvm.Cond.laysFinal "com/example/apportion/apportion/GridJob" "com/example/apportion/apportion/GridJob" "deadline" "J")).before a0 Z = true := hw _ (List.mem_of_getElem? (i := 84) rfl)
theorem w85 {Z : State} {a0 : Array Value} (hw : HW Z a0) : ((Jvm.Cond.methodLink "com/example/apportion/apportion/GridJob" (47 : Nat) ({ cls := "com/example/apportion/apportion/Request", name := "hasDeadline", desc := "()Z" } : Jvm.MethodName))).before a0 Z = true := hw _ (List.mem_of_getElem? (i := 85) rfl)
theorem w86 {Z : State} {a0 : Array Value} (hw : HW Z a0) : ((Jvm.Cond.declares ({ cls := "com/example/apportion/apportion/Request", name := "hasDeadline", desc := "()Z" } : Jvm.MethodName))).before a0 Z = true := hw _ (List.mem_of_getElem? (i := 86) rfl)
theorem w87 {Z : State} {a0 : Array Value} (hw : HW Z a0) : ((Jvm.Cond.instanceMethod ({ cls := "com/example/apportion/apportion/Request", name := "hasDeadline", desc := "()Z" } : Jvm.MethodName))).before a0 Z = true := hw _ (List.mem_of_getElem? (i := 87) rfl)
theorem w88 {Z : State} {a0 : Array Value} (hw : HW Z a0) : ((Jvm.Cond.selects "com/example/apportion/apportion/Request" ({ cls := "com/example/apportion/apportion/Request", name := "hasDeadline", desc := "()Z" } : Jvm.MethodName) ({ cls := "com/example/apportion/apportion/Request", name := "hasDeadline", desc := "()Z" } : Jvm.MethodName))).before a0 Z = true := hw _ (List.mem_of_getElem? (i := 88) rfl)
theorem w89 {Z : State} {a0 : Array Value} (hw : HW Z a0) : ((Jvm.Cond.code ({ cls := "com/example/apportion/apportion/Request", name := "hasDeadline", desc := "()Z" } : Jvm.MethodName) prog_148_method_21_code (1 : Nat) (Option.some Jvm.ClassFile.FieldType.boolean))).before a0 Z = true := hw _ (List.mem_of_getElem? (i := 89) rfl)
theorem w90 {Z : State} {a0 : Array Value} (hw : HW Z a0) : ((Jvm.Cond.fieldLink "com/example/apportion/apportion/GridJob" (51 : Nat) "com/example/apportion/apportion/GridJob" "hasDeadline" "Z")).before a0 Z = true := hw _ (List.mem_of_getElem? (i := 90) rfl)
theorem w91 {Z : State} {a0 : Array Value} (hw : HW Z a0) : ((Jvm.Cond.laysFinal "com/example/apportion/apportion/GridJob" "com/example/apportion/apportion/GridJob" "hasDeadline" "Z")).before a0 Z = true := hw _ (List.mem_of_getElem? (i := 91) rfl)
theorem w92 {Z : State} {a0 : Array Value} (hw : HW Z a0) : ((Jvm.Cond.fieldLink "com/example/apportion/apportion/GridJob" (54 : Nat) "com/example/apportion/apportion/GridJob" "servers" "I")).before a0 Z = true := hw _ (List.mem_of_getElem? (i := 92) rfl)
theorem w93 {Z : State} {a0 : Array Value} (hw : HW Z a0) : ((Jvm.Cond.laysFinal "com/example/apportion/apportion/GridJob" "com/example/apportion/apportion/GridJob" "servers" "I")).before a0 Z = true := hw _ (List.mem_of_getElem? (i := 93) rfl)
theorem w94 {Z : State} {a0 : Array Value} (hw : HW Z a0) : ((Jvm.Cond.fieldLink "com/example/apportion/apportion/JobsByStartFirstPinLaw" (7 : Nat) "com/example/apportion/apportion/GridJob" "start" "J")).before a0 Z = true := hw _ (List.mem_of_getElem? (i := 94) rfl)
theorem w95 {Z : State} {a0 : Array Value} (hw : HW Z a0) : ((Jvm.Cond.lays "com/example/apportion/apportion/GridJob" "com/example/apportion/apportion/GridJob" "start" "J")).before a0 Z = true := hw _ (List.mem_of_getElem? (i := 95) rfl)
theorem w96 {Z : State} {a0 : Array Value} (hw : HW Z a0) : ((Jvm.Cond.constantLong "com/example/apportion/apportion/JobsByStartFirstPinLaw" (27 : Nat) (2 : Int64))).before a0 Z = true := hw _ (List.mem_of_getElem? (i := 96) rfl)
theorem w97 {Z : State} {a0 : Array Value} (hw : HW Z a0) : ((Jvm.Cond.methodLink "com/example/apportion/apportion/JobsByStartFirstPinLaw" (29 : Nat) ({ cls := "com/example/apportion/apportion/JobsByStart", name := "add", desc := "(Lcom/example/apportion/apportion/GridJob;)V" } : Jvm.MethodName))).before a0 Z = true := hw _ (List.mem_of_getElem? (i := 97) rfl)
theorem w98 {Z : State} {a0 : Array Value} (hw : HW Z a0) : ((Jvm.Cond.declares ({ cls := "com/example/apportion/apportion/JobsByStart", name := "add", desc := "(Lcom/example/apportion/apportion/GridJob;)V" } : Jvm.MethodName))).before a0 Z = true := hw _ (List.mem_of_getElem? (i := 98) rfl)
theorem w99 {Z : State} {a0 : Array Value} (hw : HW Z a0) : ((Jvm.Cond.instanceMethod ({ cls := "com/example/apportion/apportion/JobsByStart", name := "add", desc := "(Lcom/example/apportion/apportion/GridJob;)V" } : Jvm.MethodName))).before a0 Z = true := hw _ (List.mem_of_getElem? (i := 99) rfl)
theorem w100 {Z : State} {a0 : Array Value} (hw : HW Z a0) : ((Jvm.Cond.selects "com/example/apportion/apportion/JobsByStart" ({ cls := "com/example/apportion/apportion/JobsByStart", name := "add", desc := "(Lcom/example/apportion/apportion/GridJob;)V" } : Jvm.MethodName) ({ cls := "com/example/apportion/apportion/JobsByStart", name := "add", desc := "(Lcom/example/apportion/apportion/GridJob;)V" } : Jvm.MethodName))).before a0 Z = true := hw _ (List.mem_of_getElem? (i := 100) rfl)
theorem w101 {Z : State} {a0 : Array Value} (hw : HW Z a0) : ((Jvm.Cond.code ({ cls := "com/example/apportion/apportion/JobsByStart", name := "add", desc := "(Lcom/example/apportion/apportion/GridJob;)V" } : Jvm.MethodName) prog_103_method_5_code (2 : Nat) (Option.none : Option Jvm.ClassFile.FieldType))).before a0 Z = true := hw _ (List.mem_of_getElem? (i := 101) rfl)
theorem w102 {Z : State} {a0 : Array Value} (hw : HW Z a0) : ((Jvm.Cond.fieldLink "com/example/apportion/apportion/JobsByStart" (7 : Nat) "com/example/apportion/apportion/JobsByStart" "root" "Lcom/example/apportion/apportion/JobsByStart$Node;")).before a0 Z = true := hw _ (List.mem_of_getElem? (i := 102) rfl)
theorem w103 {Z : State} {a0 : Array Value} (hw : HW Z a0) : ((Jvm.Cond.lays "com/example/apportion/apportion/JobsByStart" "com/example/apportion/apportion/JobsByStart" "root" "Lcom/example/apportion/apportion/JobsByStart$Node;")).before a0 Z = true := hw _ (List.mem_of_getElem? (i := 103) rfl)
theorem w104 {Z : State} {a0 : Array Value} (hw : HW Z a0) : ((Jvm.Cond.classLink "com/example/apportion/apportion/JobsByStart" (14 : Nat) "com/example/apportion/apportion/JobsByStart$Node")).before a0 Z = true := hw _ (List.mem_of_getElem? (i := 104) rfl)
theorem w105 {Z : State} {a0 : Array Value} (hw : HW Z a0) : ((Jvm.Cond.instantiable "com/example/apportion/apportion/JobsByStart$Node" (6 : Nat))).before a0 Z = true := hw _ (List.mem_of_getElem? (i := 105) rfl)
theorem w106 {Z : State} {a0 : Array Value} (hw : HW Z a0) : ((Jvm.Cond.initialized "com/example/apportion/apportion/JobsByStart$Node")).before a0 Z = true := hw _ (List.mem_of_getElem? (i := 106) rfl)
theorem w107 {Z : State} {a0 : Array Value} (hw : HW Z a0) : ((Jvm.Cond.methodLink "com/example/apportion/apportion/JobsByStart" (25 : Nat) ({ cls := "com/example/apportion/apportion/JobsByStart$Node", name := "<init>", desc := "(Lcom/example/apportion/apportion/GridJob;)V" } : Jvm.MethodName))).before a0 Z = true := hw _ (List.mem_of_getElem? (i := 107) rfl)
theorem w108 {Z : State} {a0 : Array Value} (hw : HW Z a0) : ((Jvm.Cond.instanceMethod ({ cls := "com/example/apportion/apportion/JobsByStart$Node", name := "<init>", desc := "(Lcom/example/apportion/apportion/GridJob;)V" } : Jvm.MethodName))).before a0 Z = true := hw _ (List.mem_of_getElem? (i := 108) rfl)
theorem w109 {Z : State} {a0 : Array Value} (hw : HW Z a0) : ((Jvm.Cond.code ({ cls := "com/example/apportion/apportion/JobsByStart$Node", name := "<init>", desc := "(Lcom/example/apportion/apportion/GridJob;)V" } : Jvm.MethodName) prog_105_method_1_code (2 : Nat) (Option.none : Option Jvm.ClassFile.FieldType))).before a0 Z = true := hw _ (List.mem_of_getElem? (i := 109) rfl)
theorem w110 {Z : State} {a0 : Array Value} (hw : HW Z a0) : ((Jvm.Cond.methodLink "com/example/apportion/apportion/JobsByStart$Node" (1 : Nat) ({ cls := "java/lang/Object", name := "<init>", desc := "()V" } : Jvm.MethodName))).before a0 Z = true := hw _ (List.mem_of_getElem? (i := 110) rfl)
theorem w111 {Z : State} {a0 : Array Value} (hw : HW Z a0) : ((Jvm.Cond.fieldLink "com/example/apportion/apportion/JobsByStart$Node" (7 : Nat) "com/example/apportion/apportion/JobsByStart$Node" "job" "Lcom/example/apportion/apportion/GridJob;")).before a0 Z = true := hw _ (List.mem_of_getElem? (i := 111) rfl)
theorem w112 {Z : State} {a0 : Array Value} (hw : HW Z a0) : ((Jvm.Cond.laysFinal "com/example/apportion/apportion/JobsByStart$Node" "com/example/apportion/apportion/JobsByStart$Node" "job" "Lcom/example/apportion/apportion/GridJob;")).before a0 Z = true := hw _ (List.mem_of_getElem? (i := 112) rfl)
theorem w113 {Z : State} {a0 : Array Value} (hw : HW Z a0) : ((Jvm.Cond.fieldLink "com/example/apportion/apportion/JobsByStart$Node" (13 : Nat) "com/example/apportion/apportion/GridJob" "number" "J")).before a0 Z = true := hw _ (List.mem_of_getElem? (i := 113) rfl)
theorem w114 {Z : State} {a0 : Array Value} (hw : HW Z a0) : ((Jvm.Cond.methodLink "com/example/apportion/apportion/JobsByStart$Node" (19 : Nat) ({ cls := "com/example/apportion/apportion/SplitMix64", name := "mix", desc := "(J)J" } : Jvm.MethodName))).before a0 Z = true := hw _ (List.mem_of_getElem? (i := 114) rfl)
theorem w115 {Z : State} {a0 : Array Value} (hw : HW Z a0) : ((Jvm.Cond.static ({ cls := "com/example/apportion/apportion/SplitMix64", name := "mix", desc := "(J)J" } : Jvm.MethodName))).before a0 Z = true := hw _ (List.mem_of_getElem? (i := 115) rfl)
theorem w116 {Z : State} {a0 : Array Value} (hw : HW Z a0) : ((Jvm.Cond.initialized "com/example/apportion/apportion/SplitMix64")).before a0 Z = true := hw _ (List.mem_of_getElem? (i := 116) rfl)
theorem w117 {Z : State} {a0 : Array Value} (hw : HW Z a0) : ((Jvm.Cond.code ({ cls := "com/example/apportion/apportion/SplitMix64", name := "mix", desc := "(J)J" } : Jvm.MethodName) prog_169_method_4_code (2 : Nat) (Option.some Jvm.ClassFile.FieldType.long))).before a0 Z = true := hw _ (List.mem_of_getElem? (i := 117) rfl)
theorem w118 {Z : State} {a0 : Array Value} (hw : HW Z a0) : ((Jvm.Cond.constantLong "com/example/apportion/apportion/SplitMix64" (19 : Nat) (-4658895280553007687 : Int64))).before a0 Z = true := hw _ (List.mem_of_getElem? (i := 118) rfl)
theorem w119 {Z : State} {a0 : Array Value} (hw : HW Z a0) : ((Jvm.Cond.constantLong "com/example/apportion/apportion/SplitMix64" (21 : Nat) (-7723592293110705685 : Int64))).before a0 Z = true := hw _ (List.mem_of_getElem? (i := 119) rfl)
theorem w120 {Z : State} {a0 : Array Value} (hw : HW Z a0) : ((Jvm.Cond.fieldLink "com/example/apportion/apportion/JobsByStart$Node" (25 : Nat) "com/example/apportion/apportion/JobsByStart$Node" "priority" "J")).before a0 Z = true := hw _ (List.mem_of_getElem? (i := 120) rfl)
theorem w121 {Z : State} {a0 : Array Value} (hw : HW Z a0) : ((Jvm.Cond.laysFinal "com/example/apportion/apportion/JobsByStart$Node" "com/example/apportion/apportion/JobsByStart$Node" "priority" "J")).before a0 Z = true := hw _ (List.mem_of_getElem? (i := 121) rfl)
theorem w122 {Z : State} {a0 : Array Value} (hw : HW Z a0) : ((Jvm.Cond.fieldLink "com/example/apportion/apportion/JobsByStart$Node" (28 : Nat) "com/example/apportion/apportion/JobsByStart$Node" "latest" "Lcom/example/apportion/apportion/GridJob;")).before a0 Z = true := hw _ (List.mem_of_getElem? (i := 122) rfl)
theorem w123 {Z : State} {a0 : Array Value} (hw : HW Z a0) : ((Jvm.Cond.lays "com/example/apportion/apportion/JobsByStart$Node" "com/example/apportion/apportion/JobsByStart$Node" "latest" "Lcom/example/apportion/apportion/GridJob;")).before a0 Z = true := hw _ (List.mem_of_getElem? (i := 123) rfl)
theorem w124 {Z : State} {a0 : Array Value} (hw : HW Z a0) : ((Jvm.Cond.fieldLink "com/example/apportion/apportion/JobsByStart$Node" (31 : Nat) "com/example/apportion/apportion/GridJob" "end" "J")).before a0 Z = true := hw _ (List.mem_of_getElem? (i := 124) rfl)
theorem w125 {Z : State} {a0 : Array Value} (hw : HW Z a0) : ((Jvm.Cond.lays "com/example/apportion/apportion/GridJob" "com/example/apportion/apportion/GridJob" "end" "J")).before a0 Z = true := hw _ (List.mem_of_getElem? (i := 125) rfl)
theorem w126 {Z : State} {a0 : Array Value} (hw : HW Z a0) : ((Jvm.Cond.fieldLink "com/example/apportion/apportion/JobsByStart$Node" (34 : Nat) "com/example/apportion/apportion/JobsByStart$Node" "lastEnd" "J")).before a0 Z = true := hw _ (List.mem_of_getElem? (i := 126) rfl)
theorem w127 {Z : State} {a0 : Array Value} (hw : HW Z a0) : ((Jvm.Cond.lays "com/example/apportion/apportion/JobsByStart$Node" "com/example/apportion/apportion/JobsByStart$Node" "lastEnd" "J")).before a0 Z = true := hw _ (List.mem_of_getElem? (i := 127) rfl)
theorem w128 {Z : State} {a0 : Array Value} (hw : HW Z a0) : ((Jvm.Cond.methodLink "com/example/apportion/apportion/JobsByStart" (28 : Nat) ({ cls := "com/example/apportion/apportion/JobsByStart", name := "insert", desc := "(Lcom/example/apportion/apportion/JobsByStart$Node;Lcom/example/apportion/apportion/JobsByStart$Node;)Lcom/example/apportion/apportion/JobsByStart$Node;" } : Jvm.MethodName))).before a0 Z = true := hw _ (List.mem_of_getElem? (i := 128) rfl)
theorem w129 {Z : State} {a0 : Array Value} (hw : HW Z a0) : ((Jvm.Cond.static ({ cls := "com/example/apportion/apportion/JobsByStart", name := "insert", desc := "(Lcom/example/apportion/apportion/JobsByStart$Node;Lcom/example/apportion/apportion/JobsByStart$Node;)Lcom/example/apportion/apportion/JobsByStart$Node;" } : Jvm.MethodName))).before a0 Z = true := hw _ (List.mem_of_getElem? (i := 129) rfl)
theorem w130 {Z : State} {a0 : Array Value} (hw : HW Z a0) : ((Jvm.Cond.code ({ cls := "com/example/apportion/apportion/JobsByStart", name := "insert", desc := "(Lcom/example/apportion/apportion/JobsByStart$Node;Lcom/example/apportion/apportion/JobsByStart$Node;)Lcom/example/apportion/apportion/JobsByStart$Node;" } : Jvm.MethodName) prog_103_method_12_code (3 : Nat) (Option.some (Jvm.ClassFile.FieldType.object "com/example/apportion/apportion/JobsByStart$Node")))).before a0 Z = true := hw _ (List.mem_of_getElem? (i := 130) rfl)
theorem w131 {Z : State} {a0 : Array Value} (hw : HW Z a0) : ((Jvm.Cond.fieldLink "com/example/apportion/apportion/JobsByStart" (18 : Nat) "com/example/apportion/apportion/JobsByStart$Node" "job" "Lcom/example/apportion/apportion/GridJob;")).before a0 Z = true := hw _ (List.mem_of_getElem? (i := 131) rfl)
theorem w132 {Z : State} {a0 : Array Value} (hw : HW Z a0) : ((Jvm.Cond.methodLink "com/example/apportion/apportion/JobsByStart" (36 : Nat) ({ cls := "com/example/apportion/apportion/JobsByStart", name := "precedes", desc := "(Lcom/example/apportion/apportion/GridJob;Lcom/example/apportion/apportion/GridJob;)Z" } : Jvm.MethodName))).before a0 Z = true := hw _ (List.mem_of_getElem? (i := 132) rfl)
theorem w133 {Z : State} {a0 : Array Value} (hw : HW Z a0) : ((Jvm.Cond.static ({ cls := "com/example/apportion/apportion/JobsByStart", name := "precedes", desc := "(Lcom/example/apportion/apportion/GridJob;Lcom/example/apportion/apportion/GridJob;)Z" } : Jvm.MethodName))).before a0 Z = true := hw _ (List.mem_of_getElem? (i := 133) rfl)
theorem w134 {Z : State} {a0 : Array Value} (hw : HW Z a0) : ((Jvm.Cond.code ({ cls := "com/example/apportion/apportion/JobsByStart", name := "precedes", desc := "(Lcom/example/apportion/apportion/GridJob;Lcom/example/apportion/apportion/GridJob;)Z" } : Jvm.MethodName) prog_103_method_11_code (2 : Nat) (Option.some Jvm.ClassFile.FieldType.boolean))).before a0 Z = true := hw _ (List.mem_of_getElem? (i := 134) rfl)
theorem w135 {Z : State} {a0 : Array Value} (hw : HW Z a0) : ((Jvm.Cond.fieldLink "com/example/apportion/apportion/JobsByStart" (58 : Nat) "com/example/apportion/apportion/GridJob" "start" "J")).before a0 Z = true := hw _ (List.mem_of_getElem? (i := 135) rfl)
theorem w136 {Z : State} {a0 : Array Value} (hw : HW Z a0) : ((Jvm.Cond.fieldLink "com/example/apportion/apportion/JobsByStart" (13 : Nat) "com/example/apportion/apportion/JobsByStart$Node" "left" "Lcom/example/apportion/apportion/JobsByStart$Node;")).before a0 Z = true := hw _ (List.mem_of_getElem? (i := 136) rfl)
theorem w137 {Z : State} {a0 : Array Value} (hw : HW Z a0) : ((Jvm.Cond.lays "com/example/apportion/apportion/JobsByStart$Node" "com/example/apportion/apportion/JobsByStart$Node" "left" "Lcom/example/apportion/apportion/JobsByStart$Node;")).before a0 Z = true := hw _ (List.mem_of_getElem? (i := 137) rfl)
theorem w138 {Z : State} {a0 : Array Value} (hw : HW Z a0) : ((Jvm.Cond.fieldLink "com/example/apportion/apportion/JobsByStart" (65 : Nat) "com/example/apportion/apportion/JobsByStart$Node" "priority" "J")).before a0 Z = true := hw _ (List.mem_of_getElem? (i := 138) rfl)
theorem w139 {Z : State} {a0 : Array Value} (hw : HW Z a0) : ((Jvm.Cond.methodLink "com/example/apportion/apportion/JobsByStart" (68 : Nat) ({ cls := "com/example/apportion/apportion/JobsByStart", name := "pull", desc := "(Lcom/example/apportion/apportion/JobsByStart$Node;)V" } : Jvm.MethodName))).before a0 Z = true := hw _ (List.mem_of_getElem? (i := 139) rfl)
theorem w140 {Z : State} {a0 : Array Value} (hw : HW Z a0) : ((Jvm.Cond.static ({ cls := "com/example/apportion/apportion/JobsByStart", name := "pull", desc := "(Lcom/example/apportion/apportion/JobsByStart$Node;)V" } : Jvm.MethodName))).before a0 Z = true := hw _ (List.mem_of_getElem? (i := 140) rfl)
theorem w141 {Z : State} {a0 : Array Value} (hw : HW Z a0) : ((Jvm.Cond.code ({ cls := "com/example/apportion/apportion/JobsByStart", name := "pull", desc := "(Lcom/example/apportion/apportion/JobsByStart$Node;)V" } : Jvm.MethodName) prog_103_method_15_code (4 : Nat) (Option.none : Option Jvm.ClassFile.FieldType))).before a0 Z = true := hw _ (List.mem_of_getElem? (i := 141) rfl)
theorem w142 {Z : State} {a0 : Array Value} (hw : HW Z a0) : ((Jvm.Cond.fieldLink "com/example/apportion/apportion/JobsByStart" (75 : Nat) "com/example/apportion/apportion/GridJob" "end" "J")).before a0 Z = true := hw _ (List.mem_of_getElem? (i := 142) rfl)
theorem w143 {Z : State} {a0 : Array Value} (hw : HW Z a0) : ((Jvm.Cond.fieldLink "com/example/apportion/apportion/JobsByStart" (40 : Nat) "com/example/apportion/apportion/JobsByStart$Node" "latest" "Lcom/example/apportion/apportion/GridJob;")).before a0 Z = true := hw _ (List.mem_of_getElem? (i := 143) rfl)
theorem w144 {Z : State} {a0 : Array Value} (hw : HW Z a0) : ((Jvm.Cond.methodLink "com/example/apportion/apportion/JobsByStart" (43 : Nat) ({ cls := "com/example/apportion/apportion/GridJob", name := "deadlineLaterThan", desc := "(Lcom/example/apportion/apportion/GridJob;)Z" } : Jvm.MethodName))).before a0 Z = true := hw _ (List.mem_of_getElem? (i := 144) rfl)
theorem w145 {Z : State} {a0 : Array Value} (hw : HW Z a0) : ((Jvm.Cond.declares ({ cls := "com/example/apportion/apportion/GridJob", name := "deadlineLaterThan", desc := "(Lcom/example/apportion/apportion/GridJob;)Z" } : Jvm.MethodName))).before a0 Z = true := hw _ (List.mem_of_getElem? (i := 145) rfl)
theorem w146 {Z : State} {a0 : Array Value} (hw : HW Z a0) : ((Jvm.Cond.instanceMethod ({ cls := "com/example/apportion/apportion/GridJob", name := "deadlineLaterThan", desc := "(Lcom/example/apportion/apportion/GridJob;)Z" } : Jvm.MethodName))).before a0 Z = true := hw _ (List.mem_of_getElem? (i := 146) rfl)
theorem w147 {Z : State} {a0 : Array Value} (hw : HW Z a0) : ((Jvm.Cond.selects "com/example/apportion/apportion/GridJob" ({ cls := "com/example/apportion/apportion/GridJob", name := "deadlineLaterThan", desc := "(Lcom/example/apportion/apportion/GridJob;)Z" } : Jvm.MethodName) ({ cls := "com/example/apportion/apportion/GridJob", name := "deadlineLaterThan", desc := "(Lcom/example/apportion/apportion/GridJob;)Z" } : Jvm.MethodName))).before a0 Z = true := hw _ (List.mem_of_getElem? (i := 147) rfl)
theorem w148 {Z : State} {a0 : Array Value} (hw : HW Z a0) : ((Jvm.Cond.code ({ cls := "com/example/apportion/apportion/GridJob", name := "deadlineLaterThan", desc := "(Lcom/example/apportion/apportion/GridJob;)Z" } : Jvm.MethodName) prog_79_method_3_code (2 : Nat) (Option.some Jvm.ClassFile.FieldType.boolean))).before a0 Z = true := hw _ (List.mem_of_getElem? (i := 148) rfl)
theorem w149 {Z : State} {a0 : Array Value} (hw : HW Z a0) : ((Jvm.Cond.fieldLink "com/example/apportion/apportion/JobsByStart" (78 : Nat) "com/example/apportion/apportion/JobsByStart$Node" "lastEnd" "J")).before a0 Z = true := hw _ (List.mem_of_getElem? (i := 149) rfl)
theorem w150 {Z : State} {a0 : Array Value} (hw : HW Z a0) : ((Jvm.Cond.methodLink "com/example/apportion/apportion/JobsByStart" (81 : Nat) ({ cls := "java/lang/Math", name := "max", desc := "(JJ)J" } : Jvm.MethodName))).before a0 Z = true := hw _ (List.mem_of_getElem? (i := 150) rfl)
theorem w151 {Z : State} {a0 : Array Value} (hw : HW Z a0) : ((Jvm.Cond.static ({ cls := "java/lang/Math", name := "max", desc := "(JJ)J" } : Jvm.MethodName))).before a0 Z = true := hw _ (List.mem_of_getElem? (i := 151) rfl)
theorem w152 {Z : State} {a0 : Array Value} (hw : HW Z a0) : ((Jvm.Cond.initialized "java/lang/Math")).before a0 Z = true := hw _ (List.mem_of_getElem? (i := 152) rfl)
theorem w153 {Z : State} {a0 : Array Value} (hw : HW Z a0) : ((Jvm.Cond.code ({ cls := "java/lang/Math", name := "max", desc := "(JJ)J" } : Jvm.MethodName) jdk_29_method_66_code (4 : Nat) (Option.some Jvm.ClassFile.FieldType.long))).before a0 Z = true := hw _ (List.mem_of_getElem? (i := 153) rfl)
theorem w154 {Z : State} {a0 : Array Value} (hw : HW Z a0) : ((Jvm.Cond.fieldLink "com/example/apportion/apportion/JobsByStart" (22 : Nat) "com/example/apportion/apportion/JobsByStart$Node" "right" "Lcom/example/apportion/apportion/JobsByStart$Node;")).before a0 Z = true := hw _ (List.mem_of_getElem? (i := 154) rfl)
theorem w155 {Z : State} {a0 : Array Value} (hw : HW Z a0) : ((Jvm.Cond.lays "com/example/apportion/apportion/JobsByStart$Node" "com/example/apportion/apportion/JobsByStart$Node" "right" "Lcom/example/apportion/apportion/JobsByStart$Node;")).before a0 Z = true := hw _ (List.mem_of_getElem? (i := 155) rfl)
theorem w156 {Z : State} {a0 : Array Value} (hw : HW Z a0) : ((Jvm.Cond.methodLink "com/example/apportion/apportion/JobsByStartFirstPinLaw" (36 : Nat) ({ cls := "com/example/apportion/apportion/JobsByStartFirstPinLaw", name := "before", desc := "(Lcom/example/apportion/apportion/GridJob;Lcom/example/apportion/apportion/GridJob;)Z" } : Jvm.MethodName))).before a0 Z = true := hw _ (List.mem_of_getElem? (i := 156) rfl)
theorem w157 {Z : State} {a0 : Array Value} (hw : HW Z a0) : ((Jvm.Cond.static ({ cls := "com/example/apportion/apportion/JobsByStartFirstPinLaw", name := "before", desc := "(Lcom/example/apportion/apportion/GridJob;Lcom/example/apportion/apportion/GridJob;)Z" } : Jvm.MethodName))).before a0 Z = true := hw _ (List.mem_of_getElem? (i := 157) rfl)
theorem w158 {Z : State} {a0 : Array Value} (hw : HW Z a0) : ((Jvm.Cond.initialized "com/example/apportion/apportion/JobsByStartFirstPinLaw")).before a0 Z = true := hw _ (List.mem_of_getElem? (i := 158) rfl)
theorem w159 {Z : State} {a0 : Array Value} (hw : HW Z a0) : ((Jvm.Cond.code ({ cls := "com/example/apportion/apportion/JobsByStartFirstPinLaw", name := "before", desc := "(Lcom/example/apportion/apportion/GridJob;Lcom/example/apportion/apportion/GridJob;)Z" } : Jvm.MethodName) method_2_code (2 : Nat) (Option.some Jvm.ClassFile.FieldType.boolean))).before a0 Z = true := hw _ (List.mem_of_getElem? (i := 159) rfl)
theorem w160 {Z : State} {a0 : Array Value} (hw : HW Z a0) : ((Jvm.Cond.methodLink "com/example/apportion/apportion/JobsByStartFirstPinLaw" (42 : Nat) ({ cls := "com/example/apportion/apportion/JobsByStart", name := "first", desc := "()Lcom/example/apportion/apportion/GridJob;" } : Jvm.MethodName))).before a0 Z = true := hw _ (List.mem_of_getElem? (i := 160) rfl)
theorem w161 {Z : State} {a0 : Array Value} (hw : HW Z a0) : ((Jvm.Cond.declares ({ cls := "com/example/apportion/apportion/JobsByStart", name := "first", desc := "()Lcom/example/apportion/apportion/GridJob;" } : Jvm.MethodName))).before a0 Z = true := hw _ (List.mem_of_getElem? (i := 161) rfl)
theorem w162 {Z : State} {a0 : Array Value} (hw : HW Z a0) : ((Jvm.Cond.instanceMethod ({ cls := "com/example/apportion/apportion/JobsByStart", name := "first", desc := "()Lcom/example/apportion/apportion/GridJob;" } : Jvm.MethodName))).before a0 Z = true := hw _ (List.mem_of_getElem? (i := 162) rfl)
theorem w163 {Z : State} {a0 : Array Value} (hw : HW Z a0) : ((Jvm.Cond.selects "com/example/apportion/apportion/JobsByStart" ({ cls := "com/example/apportion/apportion/JobsByStart", name := "first", desc := "()Lcom/example/apportion/apportion/GridJob;" } : Jvm.MethodName) ({ cls := "com/example/apportion/apportion/JobsByStart", name := "first", desc := "()Lcom/example/apportion/apportion/GridJob;" } : Jvm.MethodName))).before a0 Z = true := hw _ (List.mem_of_getElem? (i := 163) rfl)
theorem w164 {Z : State} {a0 : Array Value} (hw : HW Z a0) : ((Jvm.Cond.code ({ cls := "com/example/apportion/apportion/JobsByStart", name := "first", desc := "()Lcom/example/apportion/apportion/GridJob;" } : Jvm.MethodName) prog_103_method_3_code (2 : Nat) (Option.some (Jvm.ClassFile.FieldType.object "com/example/apportion/apportion/GridJob")))).before a0 Z = true := hw _ (List.mem_of_getElem? (i := 164) rfl)
theorem w165 {Z : State} {a0 : Array Value} (hw : HW Z a0) : ((Jvm.Cond.fieldLink "com/example/apportion/apportion/JobsByStart" (62 : Nat) "com/example/apportion/apportion/GridJob" "number" "J")).before a0 Z = true := hw _ (List.mem_of_getElem? (i := 165) rfl)
theorem w166 {Z : State} {a0 : Array Value} (hw : HW Z a0) : ((Jvm.Cond.methodLink "com/example/apportion/apportion/JobsByStartFirstPinLaw" (33 : Nat) ({ cls := "com/example/apportion/apportion/JobsByStart", name := "remove", desc := "(Lcom/example/apportion/apportion/GridJob;)V" } : Jvm.MethodName))).before a0 Z = true := hw _ (List.mem_of_getElem? (i := 166) rfl)
theorem w167 {Z : State} {a0 : Array Value} (hw : HW Z a0) : ((Jvm.Cond.declares ({ cls := "com/example/apportion/apportion/JobsByStart", name := "remove", desc := "(Lcom/example/apportion/apportion/GridJob;)V" } : Jvm.MethodName))).before a0 Z = true := hw _ (List.mem_of_getElem? (i := 167) rfl)
theorem w168 {Z : State} {a0 : Array Value} (hw : HW Z a0) : ((Jvm.Cond.instanceMethod ({ cls := "com/example/apportion/apportion/JobsByStart", name := "remove", desc := "(Lcom/example/apportion/apportion/GridJob;)V" } : Jvm.MethodName))).before a0 Z = true := hw _ (List.mem_of_getElem? (i := 168) rfl)
theorem w169 {Z : State} {a0 : Array Value} (hw : HW Z a0) : ((Jvm.Cond.selects "com/example/apportion/apportion/JobsByStart" ({ cls := "com/example/apportion/apportion/JobsByStart", name := "remove", desc := "(Lcom/example/apportion/apportion/GridJob;)V" } : Jvm.MethodName) ({ cls := "com/example/apportion/apportion/JobsByStart", name := "remove", desc := "(Lcom/example/apportion/apportion/GridJob;)V" } : Jvm.MethodName))).before a0 Z = true := hw _ (List.mem_of_getElem? (i := 169) rfl)
theorem w170 {Z : State} {a0 : Array Value} (hw : HW Z a0) : ((Jvm.Cond.code ({ cls := "com/example/apportion/apportion/JobsByStart", name := "remove", desc := "(Lcom/example/apportion/apportion/GridJob;)V" } : Jvm.MethodName) prog_103_method_6_code (2 : Nat) (Option.none : Option Jvm.ClassFile.FieldType))).before a0 Z = true := hw _ (List.mem_of_getElem? (i := 170) rfl)
theorem w171 {Z : State} {a0 : Array Value} (hw : HW Z a0) : ((Jvm.Cond.methodLink "com/example/apportion/apportion/JobsByStart" (32 : Nat) ({ cls := "com/example/apportion/apportion/JobsByStart", name := "without", desc := "(Lcom/example/apportion/apportion/JobsByStart$Node;Lcom/example/apportion/apportion/GridJob;)Lcom/example/apportion/apportion/JobsByStart$Node;" } : Jvm.MethodName))).before a0 Z = true := hw _ (List.mem_of_getElem? (i := 171) rfl)
theorem w172 {Z : State} {a0 : Array Value} (hw : HW Z a0) : ((Jvm.Cond.static ({ cls := "com/example/apportion/apportion/JobsByStart", name := "without", desc := "(Lcom/example/apportion/apportion/JobsByStart$Node;Lcom/example/apportion/apportion/GridJob;)Lcom/example/apportion/apportion/JobsByStart$Node;" } : Jvm.MethodName))).before a0 Z = true := hw _ (List.mem_of_getElem? (i := 172) rfl)
theorem w173 {Z : State} {a0 : Array Value} (hw : HW Z a0) : ((Jvm.Cond.code ({ cls := "com/example/apportion/apportion/JobsByStart", name := "without", desc := "(Lcom/example/apportion/apportion/JobsByStart$Node;Lcom/example/apportion/apportion/GridJob;)Lcom/example/apportion/apportion/JobsByStart$Node;" } : Jvm.MethodName) prog_103_method_13_code (2 : Nat) (Option.some (Jvm.ClassFile.FieldType.object "com/example/apportion/apportion/JobsByStart$Node")))).before a0 Z = true := hw _ (List.mem_of_getElem? (i := 173) rfl)
theorem w174 {Z : State} {a0 : Array Value} (hw : HW Z a0) : ((Jvm.Cond.methodLink "com/example/apportion/apportion/JobsByStart" (72 : Nat) ({ cls := "com/example/apportion/apportion/JobsByStart", name := "join", desc := "(Lcom/example/apportion/apportion/JobsByStart$Node;Lcom/example/apportion/apportion/JobsByStart$Node;)Lcom/example/apportion/apportion/JobsByStart$Node;" } : Jvm.MethodName))).before a0 Z = true := hw _ (List.mem_of_getElem? (i := 174) rfl)
theorem w175 {Z : State} {a0 : Array Value} (hw : HW Z a0) : ((Jvm.Cond.static ({ cls := "com/example/apportion/apportion/JobsByStart", name := "join", desc := "(Lcom/example/apportion/apportion/JobsByStart$Node;Lcom/example/apportion/apportion/JobsByStart$Node;)Lcom/example/apportion/apportion/JobsByStart$Node;" } : Jvm.MethodName))).before a0 Z = true := hw _ (List.mem_of_getElem? (i := 175) rfl)
theorem w176 {Z : State} {a0 : Array Value} (hw : HW Z a0) : ((Jvm.Cond.code ({ cls := "com/example/apportion/apportion/JobsByStart", name := "join", desc := "(Lcom/example/apportion/apportion/JobsByStart$Node;Lcom/example/apportion/apportion/JobsByStart$Node;)Lcom/example/apportion/apportion/JobsByStart$Node;" } : Jvm.MethodName) prog_103_method_14_code (2 : Nat) (Option.some (Jvm.ClassFile.FieldType.object "com/example/apportion/apportion/JobsByStart$Node")))).before a0 Z = true := hw _ (List.mem_of_getElem? (i := 176) rfl)
theorem w177 {Z : State} {a0 : Array Value} (hw : HW Z a0) : ((Jvm.Cond.fieldLink "com/example/apportion/apportion/JobsByStartFirstPinLaw" (13 : Nat) "com/example/apportion/apportion/GridJob" "number" "J")).before a0 Z = true := hw _ (List.mem_of_getElem? (i := 177) rfl)
theorem pd_0 : parseMethodDescriptor "()V" = some ⟨[], none⟩ := by decide +kernel
theorem pd_1 : parseMethodDescriptor "(Ljava/lang/String;JJJJLjava/math/BigInteger;Z)V" = some ⟨[(.object "java/lang/String"), .long, .long, .long, .long, (.object "java/math/BigInteger"), .boolean], none⟩ := by decide +kernel
theorem pd_2 : parseMethodDescriptor "()Ljava/lang/String;" = some ⟨[], some (.object "java/lang/String")⟩ := by decide +kernel
theorem pd_3 : parseMethodDescriptor "()J" = some ⟨[], some .long⟩ := by decide +kernel
theorem pd_4 : parseMethodDescriptor "()Z" = some ⟨[], some .boolean⟩ := by decide +kernel
theorem pd_5 : parseMethodDescriptor "(J)J" = some ⟨[.long], some .long⟩ := by decide +kernel
theorem pd_6 : parseMethodDescriptor "(Lcom/example/apportion/apportion/GridJob;)Z" = some ⟨[(.object "com/example/apportion/apportion/GridJob")], some .boolean⟩ := by decide +kernel
theorem pd_7 : parseMethodDescriptor "(JJ)J" = some ⟨[.long, .long], some .long⟩ := by decide +kernel
theorem pd_8 : parseMethodDescriptor "(Lcom/example/apportion/apportion/GridJob;Lcom/example/apportion/apportion/GridJob;)Z" = some ⟨[(.object "com/example/apportion/apportion/GridJob"), (.object "com/example/apportion/apportion/GridJob")], some .boolean⟩ := by decide +kernel
theorem pd_9 : parseMethodDescriptor "(Lcom/example/apportion/apportion/JobsByStart$Node;Lcom/example/apportion/apportion/JobsByStart$Node;)Lcom/example/apportion/apportion/JobsByStart$Node;" = some ⟨[(.object "com/example/apportion/apportion/JobsByStart$Node"), (.object "com/example/apportion/apportion/JobsByStart$Node")], some (.object "com/example/apportion/apportion/JobsByStart$Node")⟩ := by decide +kernel
theorem pd_10 : parseMethodDescriptor "(Lcom/example/apportion/apportion/JobsByStart$Node;)V" = some ⟨[(.object "com/example/apportion/apportion/JobsByStart$Node")], none⟩ := by decide +kernel
theorem pd_11 : parseMethodDescriptor "(Lcom/example/apportion/apportion/JobsByStart$Node;Lcom/example/apportion/apportion/GridJob;)Lcom/example/apportion/apportion/JobsByStart$Node;" = some ⟨[(.object "com/example/apportion/apportion/JobsByStart$Node"), (.object "com/example/apportion/apportion/GridJob")], some (.object "com/example/apportion/apportion/JobsByStart$Node")⟩ := by decide +kernel
theorem pd_12 : parseMethodDescriptor "(Lcom/example/apportion/apportion/GridJob;)V" = some ⟨[(.object "com/example/apportion/apportion/GridJob")], none⟩ := by decide +kernel
theorem pd_13 : parseMethodDescriptor "()Lcom/example/apportion/apportion/GridJob;" = some ⟨[], some (.object "com/example/apportion/apportion/GridJob")⟩ := by decide +kernel
theorem pd_14 : parseMethodDescriptor "(Ljava/lang/String;JJJJLjava/math/BigInteger;)V" = some ⟨[(.object "java/lang/String"), .long, .long, .long, .long, (.object "java/math/BigInteger")], none⟩ := by decide +kernel
theorem pd_15 : parseMethodDescriptor "(JLcom/example/apportion/apportion/Request;I)V" = some ⟨[.long, (.object "com/example/apportion/apportion/Request"), .int], none⟩ := by decide +kernel
theorem d1_0 : decode prog_103_method_1_code 0 = .ok (.aload_n 0, 1) := by decide +kernel
theorem d1_1 : decode prog_103_method_1_code 1 = .ok (.invokespecial 1, 3) := by decide +kernel
theorem d1_4 : decode prog_103_method_1_code 4 = .ok (.return_, 1) := by decide +kernel
theorem d3_0 : decode prog_148_method_1_code 0 = .ok (.aload_n 0, 1) := by decide +kernel
theorem d3_1 : decode prog_148_method_1_code 1 = .ok (.aload_n 1, 1) := by decide +kernel
theorem d3_2 : decode prog_148_method_1_code 2 = .ok (.lload_n 2, 1) := by decide +kernel
theorem d3_3 : decode prog_148_method_1_code 3 = .ok (.lload 4, 2) := by decide +kernel
theorem d3_5 : decode prog_148_method_1_code 5 = .ok (.lload 6, 2) := by decide +kernel
theorem d3_7 : decode prog_148_method_1_code 7 = .ok (.lload 8, 2) := by decide +kernel
theorem d3_9 : decode prog_148_method_1_code 9 = .ok (.aload 10, 2) := by decide +kernel
theorem d3_11 : decode prog_148_method_1_code 11 = .ok (.lload 8, 2) := by decide +kernel
theorem d3_13 : decode prog_148_method_1_code 13 = .ok (.ldc2_w 36, 3) := by decide +kernel
theorem d3_16 : decode prog_148_method_1_code 16 = .ok (.lcmp, 1) := by decide +kernel
theorem d3_17 : decode prog_148_method_1_code 17 = .ok (.ifCond .eq 7, 3) := by decide +kernel
theorem d3_20 : decode prog_148_method_1_code 20 = .ok (.iconst 1, 1) := by decide +kernel
theorem d3_21 : decode prog_148_method_1_code 21 = .ok (.goto 4, 3) := by decide +kernel
theorem d3_25 : decode prog_148_method_1_code 25 = .ok (.invokespecial 38, 3) := by decide +kernel
theorem d3_28 : decode prog_148_method_1_code 28 = .ok (.return_, 1) := by decide +kernel
theorem d4_0 : decode prog_148_method_2_code 0 = .ok (.aload_n 0, 1) := by decide +kernel
theorem d4_1 : decode prog_148_method_2_code 1 = .ok (.invokespecial 3, 3) := by decide +kernel
theorem d4_4 : decode prog_148_method_2_code 4 = .ok (.aload_n 0, 1) := by decide +kernel
theorem d4_5 : decode prog_148_method_2_code 5 = .ok (.aload_n 1, 1) := by decide +kernel
theorem d4_6 : decode prog_148_method_2_code 6 = .ok (.putfield 9, 3) := by decide +kernel
theorem d4_9 : decode prog_148_method_2_code 9 = .ok (.aload_n 0, 1) := by decide +kernel
theorem d4_10 : decode prog_148_method_2_code 10 = .ok (.lload_n 2, 1) := by decide +kernel
theorem d4_11 : decode prog_148_method_2_code 11 = .ok (.putfield 15, 3) := by decide +kernel
theorem d4_14 : decode prog_148_method_2_code 14 = .ok (.aload_n 0, 1) := by decide +kernel
theorem d4_15 : decode prog_148_method_2_code 15 = .ok (.lload 4, 2) := by decide +kernel
theorem d4_17 : decode prog_148_method_2_code 17 = .ok (.putfield 19, 3) := by decide +kernel
theorem d4_20 : decode prog_148_method_2_code 20 = .ok (.aload_n 0, 1) := by decide +kernel
theorem d4_21 : decode prog_148_method_2_code 21 = .ok (.lload 6, 2) := by decide +kernel
theorem d4_23 : decode prog_148_method_2_code 23 = .ok (.putfield 22, 3) := by decide +kernel
theorem d4_26 : decode prog_148_method_2_code 26 = .ok (.aload_n 0, 1) := by decide +kernel
theorem d4_27 : decode prog_148_method_2_code 27 = .ok (.lload 8, 2) := by decide +kernel
theorem d4_29 : decode prog_148_method_2_code 29 = .ok (.putfield 25, 3) := by decide +kernel
theorem d4_32 : decode prog_148_method_2_code 32 = .ok (.aload_n 0, 1) := by decide +kernel
theorem d4_33 : decode prog_148_method_2_code 33 = .ok (.aload 10, 2) := by decide +kernel
theorem d4_35 : decode prog_148_method_2_code 35 = .ok (.putfield 28, 3) := by decide +kernel
theorem d4_38 : decode prog_148_method_2_code 38 = .ok (.aload_n 0, 1) := by decide +kernel
theorem d4_39 : decode prog_148_method_2_code 39 = .ok (.iload 11, 2) := by decide +kernel
theorem d4_41 : decode prog_148_method_2_code 41 = .ok (.putfield 32, 3) := by decide +kernel
theorem d4_44 : decode prog_148_method_2_code 44 = .ok (.return_, 1) := by decide +kernel
theorem d5_0 : decode jdk_30_method_1_code 0 = .ok (.aload_n 0, 1) := by decide +kernel
theorem d5_1 : decode jdk_30_method_1_code 1 = .ok (.invokespecial 1, 3) := by decide +kernel
theorem d5_4 : decode jdk_30_method_1_code 4 = .ok (.return_, 1) := by decide +kernel
theorem d6_0 : decode prog_79_method_1_code 0 = .ok (.aload_n 0, 1) := by decide +kernel
theorem d6_1 : decode prog_79_method_1_code 1 = .ok (.invokespecial 1, 3) := by decide +kernel
theorem d6_4 : decode prog_79_method_1_code 4 = .ok (.aload_n 0, 1) := by decide +kernel
theorem d6_5 : decode prog_79_method_1_code 5 = .ok (.iconst (-1), 1) := by decide +kernel
theorem d6_6 : decode prog_79_method_1_code 6 = .ok (.putfield 7, 3) := by decide +kernel
theorem d6_9 : decode prog_79_method_1_code 9 = .ok (.aload_n 0, 1) := by decide +kernel
theorem d6_10 : decode prog_79_method_1_code 10 = .ok (.lload_n 1, 1) := by decide +kernel
theorem d6_11 : decode prog_79_method_1_code 11 = .ok (.putfield 13, 3) := by decide +kernel
theorem d6_14 : decode prog_79_method_1_code 14 = .ok (.aload_n 0, 1) := by decide +kernel
theorem d6_15 : decode prog_79_method_1_code 15 = .ok (.aload_n 3, 1) := by decide +kernel
theorem d6_16 : decode prog_79_method_1_code 16 = .ok (.invokevirtual 17, 3) := by decide +kernel
theorem d6_19 : decode prog_79_method_1_code 19 = .ok (.putfield 23, 3) := by decide +kernel
theorem d6_22 : decode prog_79_method_1_code 22 = .ok (.aload_n 0, 1) := by decide +kernel
theorem d6_23 : decode prog_79_method_1_code 23 = .ok (.aload_n 3, 1) := by decide +kernel
theorem d6_24 : decode prog_79_method_1_code 24 = .ok (.invokevirtual 26, 3) := by decide +kernel
theorem d6_27 : decode prog_79_method_1_code 27 = .ok (.putfield 30, 3) := by decide +kernel
theorem d6_30 : decode prog_79_method_1_code 30 = .ok (.aload_n 0, 1) := by decide +kernel
theorem d6_31 : decode prog_79_method_1_code 31 = .ok (.aload_n 3, 1) := by decide +kernel
theorem d6_32 : decode prog_79_method_1_code 32 = .ok (.invokevirtual 32, 3) := by decide +kernel
theorem d6_35 : decode prog_79_method_1_code 35 = .ok (.putfield 35, 3) := by decide +kernel
theorem d6_38 : decode prog_79_method_1_code 38 = .ok (.aload_n 0, 1) := by decide +kernel
theorem d6_39 : decode prog_79_method_1_code 39 = .ok (.aload_n 3, 1) := by decide +kernel
theorem d6_40 : decode prog_79_method_1_code 40 = .ok (.invokevirtual 37, 3) := by decide +kernel
theorem d6_43 : decode prog_79_method_1_code 43 = .ok (.putfield 40, 3) := by decide +kernel
theorem d6_46 : decode prog_79_method_1_code 46 = .ok (.aload_n 0, 1) := by decide +kernel
theorem d6_47 : decode prog_79_method_1_code 47 = .ok (.aload_n 3, 1) := by decide +kernel
theorem d6_48 : decode prog_79_method_1_code 48 = .ok (.invokevirtual 42, 3) := by decide +kernel
theorem d6_51 : decode prog_79_method_1_code 51 = .ok (.putfield 45, 3) := by decide +kernel
theorem d6_54 : decode prog_79_method_1_code 54 = .ok (.aload_n 0, 1) := by decide +kernel
theorem d6_55 : decode prog_79_method_1_code 55 = .ok (.aload_n 3, 1) := by decide +kernel
theorem d6_56 : decode prog_79_method_1_code 56 = .ok (.invokevirtual 47, 3) := by decide +kernel
theorem d6_59 : decode prog_79_method_1_code 59 = .ok (.putfield 51, 3) := by decide +kernel
theorem d6_62 : decode prog_79_method_1_code 62 = .ok (.aload_n 0, 1) := by decide +kernel
theorem d6_63 : decode prog_79_method_1_code 63 = .ok (.iload 4, 2) := by decide +kernel
theorem d6_65 : decode prog_79_method_1_code 65 = .ok (.putfield 54, 3) := by decide +kernel
theorem d6_68 : decode prog_79_method_1_code 68 = .ok (.return_, 1) := by decide +kernel
theorem d7_0 : decode prog_148_method_15_code 0 = .ok (.aload_n 0, 1) := by decide +kernel
theorem d7_1 : decode prog_148_method_15_code 1 = .ok (.getfield 9, 3) := by decide +kernel
theorem d7_4 : decode prog_148_method_15_code 4 = .ok (.areturn, 1) := by decide +kernel
theorem d8_0 : decode prog_148_method_16_code 0 = .ok (.aload_n 0, 1) := by decide +kernel
theorem d8_1 : decode prog_148_method_16_code 1 = .ok (.getfield 15, 3) := by decide +kernel
theorem d8_4 : decode prog_148_method_16_code 4 = .ok (.lreturn, 1) := by decide +kernel
theorem d9_0 : decode prog_148_method_17_code 0 = .ok (.aload_n 0, 1) := by decide +kernel
theorem d9_1 : decode prog_148_method_17_code 1 = .ok (.getfield 19, 3) := by decide +kernel
theorem d9_4 : decode prog_148_method_17_code 4 = .ok (.lreturn, 1) := by decide +kernel
theorem d10_0 : decode prog_148_method_18_code 0 = .ok (.aload_n 0, 1) := by decide +kernel
theorem d10_1 : decode prog_148_method_18_code 1 = .ok (.getfield 22, 3) := by decide +kernel
theorem d10_4 : decode prog_148_method_18_code 4 = .ok (.lreturn, 1) := by decide +kernel
theorem d11_0 : decode prog_148_method_19_code 0 = .ok (.aload_n 0, 1) := by decide +kernel
theorem d11_1 : decode prog_148_method_19_code 1 = .ok (.getfield 25, 3) := by decide +kernel
theorem d11_4 : decode prog_148_method_19_code 4 = .ok (.lreturn, 1) := by decide +kernel
theorem d12_0 : decode prog_148_method_21_code 0 = .ok (.aload_n 0, 1) := by decide +kernel
theorem d12_1 : decode prog_148_method_21_code 1 = .ok (.getfield 32, 3) := by decide +kernel
theorem d12_4 : decode prog_148_method_21_code 4 = .ok (.ireturn, 1) := by decide +kernel
theorem d13_0 : decode prog_103_method_5_code 0 = .ok (.aload_n 0, 1) := by decide +kernel
theorem d13_1 : decode prog_103_method_5_code 1 = .ok (.aload_n 0, 1) := by decide +kernel
theorem d13_2 : decode prog_103_method_5_code 2 = .ok (.getfield 7, 3) := by decide +kernel
theorem d13_5 : decode prog_103_method_5_code 5 = .ok (.new 14, 3) := by decide +kernel
theorem d13_8 : decode prog_103_method_5_code 8 = .ok (.dup, 1) := by decide +kernel
theorem d13_9 : decode prog_103_method_5_code 9 = .ok (.aload_n 1, 1) := by decide +kernel
theorem d13_10 : decode prog_103_method_5_code 10 = .ok (.invokespecial 25, 3) := by decide +kernel
theorem d13_13 : decode prog_103_method_5_code 13 = .ok (.invokestatic 28, 3) := by decide +kernel
theorem d13_16 : decode prog_103_method_5_code 16 = .ok (.putfield 7, 3) := by decide +kernel
theorem d13_19 : decode prog_103_method_5_code 19 = .ok (.return_, 1) := by decide +kernel
theorem d14_0 : decode prog_105_method_1_code 0 = .ok (.aload_n 0, 1) := by decide +kernel
theorem d14_1 : decode prog_105_method_1_code 1 = .ok (.invokespecial 1, 3) := by decide +kernel
theorem d14_4 : decode prog_105_method_1_code 4 = .ok (.aload_n 0, 1) := by decide +kernel
theorem d14_5 : decode prog_105_method_1_code 5 = .ok (.aload_n 1, 1) := by decide +kernel
theorem d14_6 : decode prog_105_method_1_code 6 = .ok (.putfield 7, 3) := by decide +kernel
theorem d14_9 : decode prog_105_method_1_code 9 = .ok (.aload_n 0, 1) := by decide +kernel
theorem d14_10 : decode prog_105_method_1_code 10 = .ok (.aload_n 1, 1) := by decide +kernel
theorem d14_11 : decode prog_105_method_1_code 11 = .ok (.getfield 13, 3) := by decide +kernel
theorem d14_14 : decode prog_105_method_1_code 14 = .ok (.invokestatic 19, 3) := by decide +kernel
theorem d14_17 : decode prog_105_method_1_code 17 = .ok (.putfield 25, 3) := by decide +kernel
theorem d14_20 : decode prog_105_method_1_code 20 = .ok (.aload_n 0, 1) := by decide +kernel
theorem d14_21 : decode prog_105_method_1_code 21 = .ok (.aload_n 1, 1) := by decide +kernel
theorem d14_22 : decode prog_105_method_1_code 22 = .ok (.putfield 28, 3) := by decide +kernel
theorem d14_25 : decode prog_105_method_1_code 25 = .ok (.aload_n 0, 1) := by decide +kernel
theorem d14_26 : decode prog_105_method_1_code 26 = .ok (.aload_n 1, 1) := by decide +kernel
theorem d14_27 : decode prog_105_method_1_code 27 = .ok (.getfield 31, 3) := by decide +kernel
theorem d14_30 : decode prog_105_method_1_code 30 = .ok (.putfield 34, 3) := by decide +kernel
theorem d14_33 : decode prog_105_method_1_code 33 = .ok (.return_, 1) := by decide +kernel
theorem d15_0 : decode prog_169_method_4_code 0 = .ok (.lload_n 0, 1) := by decide +kernel
theorem d15_1 : decode prog_169_method_4_code 1 = .ok (.lload_n 0, 1) := by decide +kernel
theorem d15_2 : decode prog_169_method_4_code 2 = .ok (.bipush 30, 2) := by decide +kernel
theorem d15_4 : decode prog_169_method_4_code 4 = .ok (.lushr, 1) := by decide +kernel
theorem d15_5 : decode prog_169_method_4_code 5 = .ok (.lxor, 1) := by decide +kernel
theorem d15_6 : decode prog_169_method_4_code 6 = .ok (.ldc2_w 19, 3) := by decide +kernel
theorem d15_9 : decode prog_169_method_4_code 9 = .ok (.lmul, 1) := by decide +kernel
theorem d15_10 : decode prog_169_method_4_code 10 = .ok (.lstore_n 0, 1) := by decide +kernel
theorem d15_11 : decode prog_169_method_4_code 11 = .ok (.lload_n 0, 1) := by decide +kernel
theorem d15_12 : decode prog_169_method_4_code 12 = .ok (.lload_n 0, 1) := by decide +kernel
theorem d15_13 : decode prog_169_method_4_code 13 = .ok (.bipush 27, 2) := by decide +kernel
theorem d15_15 : decode prog_169_method_4_code 15 = .ok (.lushr, 1) := by decide +kernel
theorem d15_16 : decode prog_169_method_4_code 16 = .ok (.lxor, 1) := by decide +kernel
theorem d15_17 : decode prog_169_method_4_code 17 = .ok (.ldc2_w 21, 3) := by decide +kernel
theorem d15_20 : decode prog_169_method_4_code 20 = .ok (.lmul, 1) := by decide +kernel
theorem d15_21 : decode prog_169_method_4_code 21 = .ok (.lstore_n 0, 1) := by decide +kernel
theorem d15_22 : decode prog_169_method_4_code 22 = .ok (.lload_n 0, 1) := by decide +kernel
theorem d15_23 : decode prog_169_method_4_code 23 = .ok (.lload_n 0, 1) := by decide +kernel
theorem d15_24 : decode prog_169_method_4_code 24 = .ok (.bipush 31, 2) := by decide +kernel
theorem d15_26 : decode prog_169_method_4_code 26 = .ok (.lushr, 1) := by decide +kernel
theorem d15_27 : decode prog_169_method_4_code 27 = .ok (.lxor, 1) := by decide +kernel
theorem d15_28 : decode prog_169_method_4_code 28 = .ok (.lreturn, 1) := by decide +kernel
theorem d16_0 : decode prog_103_method_12_code 0 = .ok (.aload_n 0, 1) := by decide +kernel
theorem d16_1 : decode prog_103_method_12_code 1 = .ok (.ifnonnull 5, 3) := by decide +kernel
theorem d16_4 : decode prog_103_method_12_code 4 = .ok (.aload_n 1, 1) := by decide +kernel
theorem d16_5 : decode prog_103_method_12_code 5 = .ok (.areturn, 1) := by decide +kernel
theorem d16_6 : decode prog_103_method_12_code 6 = .ok (.aload_n 1, 1) := by decide +kernel
theorem d16_7 : decode prog_103_method_12_code 7 = .ok (.getfield 18, 3) := by decide +kernel
theorem d16_10 : decode prog_103_method_12_code 10 = .ok (.aload_n 0, 1) := by decide +kernel
theorem d16_11 : decode prog_103_method_12_code 11 = .ok (.getfield 18, 3) := by decide +kernel
theorem d16_14 : decode prog_103_method_12_code 14 = .ok (.invokestatic 36, 3) := by decide +kernel
theorem d16_17 : decode prog_103_method_12_code 17 = .ok (.ifCond .eq 57, 3) := by decide +kernel
theorem d16_20 : decode prog_103_method_12_code 20 = .ok (.aload_n 0, 1) := by decide +kernel
theorem d16_21 : decode prog_103_method_12_code 21 = .ok (.aload_n 0, 1) := by decide +kernel
theorem d16_22 : decode prog_103_method_12_code 22 = .ok (.getfield 13, 3) := by decide +kernel
theorem d16_25 : decode prog_103_method_12_code 25 = .ok (.aload_n 1, 1) := by decide +kernel
theorem d16_26 : decode prog_103_method_12_code 26 = .ok (.invokestatic 28, 3) := by decide +kernel
theorem d16_29 : decode prog_103_method_12_code 29 = .ok (.putfield 13, 3) := by decide +kernel
theorem d16_32 : decode prog_103_method_12_code 32 = .ok (.aload_n 0, 1) := by decide +kernel
theorem d16_33 : decode prog_103_method_12_code 33 = .ok (.getfield 13, 3) := by decide +kernel
theorem d16_36 : decode prog_103_method_12_code 36 = .ok (.getfield 65, 3) := by decide +kernel
theorem d16_39 : decode prog_103_method_12_code 39 = .ok (.aload_n 0, 1) := by decide +kernel
theorem d16_40 : decode prog_103_method_12_code 40 = .ok (.getfield 65, 3) := by decide +kernel
theorem d16_43 : decode prog_103_method_12_code 43 = .ok (.lcmp, 1) := by decide +kernel
theorem d16_44 : decode prog_103_method_12_code 44 = .ok (.ifCond .le 81, 3) := by decide +kernel
theorem d16_47 : decode prog_103_method_12_code 47 = .ok (.aload_n 0, 1) := by decide +kernel
theorem d16_48 : decode prog_103_method_12_code 48 = .ok (.getfield 13, 3) := by decide +kernel
theorem d16_51 : decode prog_103_method_12_code 51 = .ok (.astore_n 2, 1) := by decide +kernel
theorem d16_52 : decode prog_103_method_12_code 52 = .ok (.aload_n 0, 1) := by decide +kernel
theorem d16_53 : decode prog_103_method_12_code 53 = .ok (.aload_n 2, 1) := by decide +kernel
theorem d16_54 : decode prog_103_method_12_code 54 = .ok (.getfield 22, 3) := by decide +kernel
theorem d16_57 : decode prog_103_method_12_code 57 = .ok (.putfield 13, 3) := by decide +kernel
theorem d16_60 : decode prog_103_method_12_code 60 = .ok (.aload_n 0, 1) := by decide +kernel
theorem d16_61 : decode prog_103_method_12_code 61 = .ok (.invokestatic 68, 3) := by decide +kernel
theorem d16_64 : decode prog_103_method_12_code 64 = .ok (.aload_n 2, 1) := by decide +kernel
theorem d16_65 : decode prog_103_method_12_code 65 = .ok (.aload_n 0, 1) := by decide +kernel
theorem d16_66 : decode prog_103_method_12_code 66 = .ok (.putfield 22, 3) := by decide +kernel
theorem d16_69 : decode prog_103_method_12_code 69 = .ok (.aload_n 2, 1) := by decide +kernel
theorem d16_70 : decode prog_103_method_12_code 70 = .ok (.astore_n 0, 1) := by decide +kernel
theorem d16_71 : decode prog_103_method_12_code 71 = .ok (.goto 54, 3) := by decide +kernel
theorem d16_74 : decode prog_103_method_12_code 74 = .ok (.aload_n 0, 1) := by decide +kernel
theorem d16_75 : decode prog_103_method_12_code 75 = .ok (.aload_n 0, 1) := by decide +kernel
theorem d16_76 : decode prog_103_method_12_code 76 = .ok (.getfield 22, 3) := by decide +kernel
theorem d16_79 : decode prog_103_method_12_code 79 = .ok (.aload_n 1, 1) := by decide +kernel
theorem d16_80 : decode prog_103_method_12_code 80 = .ok (.invokestatic 28, 3) := by decide +kernel
theorem d16_83 : decode prog_103_method_12_code 83 = .ok (.putfield 22, 3) := by decide +kernel
theorem d16_86 : decode prog_103_method_12_code 86 = .ok (.aload_n 0, 1) := by decide +kernel
theorem d16_87 : decode prog_103_method_12_code 87 = .ok (.getfield 22, 3) := by decide +kernel
theorem d16_90 : decode prog_103_method_12_code 90 = .ok (.getfield 65, 3) := by decide +kernel
theorem d16_93 : decode prog_103_method_12_code 93 = .ok (.aload_n 0, 1) := by decide +kernel
theorem d16_94 : decode prog_103_method_12_code 94 = .ok (.getfield 65, 3) := by decide +kernel
theorem d16_97 : decode prog_103_method_12_code 97 = .ok (.lcmp, 1) := by decide +kernel
theorem d16_98 : decode prog_103_method_12_code 98 = .ok (.ifCond .le 27, 3) := by decide +kernel
theorem d16_101 : decode prog_103_method_12_code 101 = .ok (.aload_n 0, 1) := by decide +kernel
theorem d16_102 : decode prog_103_method_12_code 102 = .ok (.getfield 22, 3) := by decide +kernel
theorem d16_105 : decode prog_103_method_12_code 105 = .ok (.astore_n 2, 1) := by decide +kernel
theorem d16_106 : decode prog_103_method_12_code 106 = .ok (.aload_n 0, 1) := by decide +kernel
theorem d16_107 : decode prog_103_method_12_code 107 = .ok (.aload_n 2, 1) := by decide +kernel
theorem d16_108 : decode prog_103_method_12_code 108 = .ok (.getfield 13, 3) := by decide +kernel
theorem d16_111 : decode prog_103_method_12_code 111 = .ok (.putfield 22, 3) := by decide +kernel
theorem d16_114 : decode prog_103_method_12_code 114 = .ok (.aload_n 0, 1) := by decide +kernel
theorem d16_115 : decode prog_103_method_12_code 115 = .ok (.invokestatic 68, 3) := by decide +kernel
theorem d16_118 : decode prog_103_method_12_code 118 = .ok (.aload_n 2, 1) := by decide +kernel
theorem d16_119 : decode prog_103_method_12_code 119 = .ok (.aload_n 0, 1) := by decide +kernel
theorem d16_120 : decode prog_103_method_12_code 120 = .ok (.putfield 13, 3) := by decide +kernel
theorem d16_123 : decode prog_103_method_12_code 123 = .ok (.aload_n 2, 1) := by decide +kernel
theorem d16_124 : decode prog_103_method_12_code 124 = .ok (.astore_n 0, 1) := by decide +kernel
theorem d16_125 : decode prog_103_method_12_code 125 = .ok (.aload_n 0, 1) := by decide +kernel
theorem d16_126 : decode prog_103_method_12_code 126 = .ok (.invokestatic 68, 3) := by decide +kernel
theorem d16_129 : decode prog_103_method_12_code 129 = .ok (.aload_n 0, 1) := by decide +kernel
theorem d16_130 : decode prog_103_method_12_code 130 = .ok (.areturn, 1) := by decide +kernel
theorem d17_0 : decode prog_103_method_11_code 0 = .ok (.aload_n 0, 1) := by decide +kernel
theorem d17_1 : decode prog_103_method_11_code 1 = .ok (.getfield 58, 3) := by decide +kernel
theorem d17_4 : decode prog_103_method_11_code 4 = .ok (.aload_n 1, 1) := by decide +kernel
theorem d17_5 : decode prog_103_method_11_code 5 = .ok (.getfield 58, 3) := by decide +kernel
theorem d17_8 : decode prog_103_method_11_code 8 = .ok (.lcmp, 1) := by decide +kernel
theorem d17_9 : decode prog_103_method_11_code 9 = .ok (.ifCond .lt 27, 3) := by decide +kernel
theorem d17_12 : decode prog_103_method_11_code 12 = .ok (.aload_n 0, 1) := by decide +kernel
theorem d17_13 : decode prog_103_method_11_code 13 = .ok (.getfield 58, 3) := by decide +kernel
theorem d17_16 : decode prog_103_method_11_code 16 = .ok (.aload_n 1, 1) := by decide +kernel
theorem d17_17 : decode prog_103_method_11_code 17 = .ok (.getfield 58, 3) := by decide +kernel
theorem d17_20 : decode prog_103_method_11_code 20 = .ok (.lcmp, 1) := by decide +kernel
theorem d17_21 : decode prog_103_method_11_code 21 = .ok (.ifCond .ne 19, 3) := by decide +kernel
theorem d17_24 : decode prog_103_method_11_code 24 = .ok (.aload_n 0, 1) := by decide +kernel
theorem d17_25 : decode prog_103_method_11_code 25 = .ok (.getfield 62, 3) := by decide +kernel
theorem d17_28 : decode prog_103_method_11_code 28 = .ok (.aload_n 1, 1) := by decide +kernel
theorem d17_29 : decode prog_103_method_11_code 29 = .ok (.getfield 62, 3) := by decide +kernel
theorem d17_32 : decode prog_103_method_11_code 32 = .ok (.lcmp, 1) := by decide +kernel
theorem d17_33 : decode prog_103_method_11_code 33 = .ok (.ifCond .ge 7, 3) := by decide +kernel
theorem d17_36 : decode prog_103_method_11_code 36 = .ok (.iconst 1, 1) := by decide +kernel
theorem d17_37 : decode prog_103_method_11_code 37 = .ok (.goto 4, 3) := by decide +kernel
theorem d17_40 : decode prog_103_method_11_code 40 = .ok (.iconst 0, 1) := by decide +kernel
theorem d17_41 : decode prog_103_method_11_code 41 = .ok (.ireturn, 1) := by decide +kernel
theorem d18_0 : decode prog_103_method_15_code 0 = .ok (.aload_n 0, 1) := by decide +kernel
theorem d18_1 : decode prog_103_method_15_code 1 = .ok (.getfield 18, 3) := by decide +kernel
theorem d18_4 : decode prog_103_method_15_code 4 = .ok (.astore_n 1, 1) := by decide +kernel
theorem d18_5 : decode prog_103_method_15_code 5 = .ok (.aload_n 0, 1) := by decide +kernel
theorem d18_6 : decode prog_103_method_15_code 6 = .ok (.getfield 18, 3) := by decide +kernel
theorem d18_9 : decode prog_103_method_15_code 9 = .ok (.getfield 75, 3) := by decide +kernel
theorem d18_12 : decode prog_103_method_15_code 12 = .ok (.lstore_n 2, 1) := by decide +kernel
theorem d18_13 : decode prog_103_method_15_code 13 = .ok (.aload_n 0, 1) := by decide +kernel
theorem d18_14 : decode prog_103_method_15_code 14 = .ok (.getfield 13, 3) := by decide +kernel
theorem d18_17 : decode prog_103_method_15_code 17 = .ok (.ifnull 41, 3) := by decide +kernel
theorem d18_20 : decode prog_103_method_15_code 20 = .ok (.aload_n 0, 1) := by decide +kernel
theorem d18_21 : decode prog_103_method_15_code 21 = .ok (.getfield 13, 3) := by decide +kernel
theorem d18_24 : decode prog_103_method_15_code 24 = .ok (.getfield 40, 3) := by decide +kernel
theorem d18_27 : decode prog_103_method_15_code 27 = .ok (.aload_n 1, 1) := by decide +kernel
theorem d18_28 : decode prog_103_method_15_code 28 = .ok (.invokevirtual 43, 3) := by decide +kernel
theorem d18_31 : decode prog_103_method_15_code 31 = .ok (.ifCond .eq 13, 3) := by decide +kernel
theorem d18_44 : decode prog_103_method_15_code 44 = .ok (.aload_n 1, 1) := by decide +kernel
theorem d18_45 : decode prog_103_method_15_code 45 = .ok (.astore_n 1, 1) := by decide +kernel
theorem d18_46 : decode prog_103_method_15_code 46 = .ok (.lload_n 2, 1) := by decide +kernel
theorem d18_47 : decode prog_103_method_15_code 47 = .ok (.aload_n 0, 1) := by decide +kernel
theorem d18_48 : decode prog_103_method_15_code 48 = .ok (.getfield 13, 3) := by decide +kernel
theorem d18_51 : decode prog_103_method_15_code 51 = .ok (.getfield 78, 3) := by decide +kernel
theorem d18_54 : decode prog_103_method_15_code 54 = .ok (.invokestatic 81, 3) := by decide +kernel
theorem d18_57 : decode prog_103_method_15_code 57 = .ok (.lstore_n 2, 1) := by decide +kernel
theorem d18_58 : decode prog_103_method_15_code 58 = .ok (.aload_n 0, 1) := by decide +kernel
theorem d18_59 : decode prog_103_method_15_code 59 = .ok (.getfield 22, 3) := by decide +kernel
theorem d18_62 : decode prog_103_method_15_code 62 = .ok (.ifnull 41, 3) := by decide +kernel
theorem d18_65 : decode prog_103_method_15_code 65 = .ok (.aload_n 0, 1) := by decide +kernel
theorem d18_66 : decode prog_103_method_15_code 66 = .ok (.getfield 22, 3) := by decide +kernel
theorem d18_69 : decode prog_103_method_15_code 69 = .ok (.getfield 40, 3) := by decide +kernel
theorem d18_72 : decode prog_103_method_15_code 72 = .ok (.aload_n 1, 1) := by decide +kernel
theorem d18_73 : decode prog_103_method_15_code 73 = .ok (.invokevirtual 43, 3) := by decide +kernel
theorem d18_76 : decode prog_103_method_15_code 76 = .ok (.ifCond .eq 13, 3) := by decide +kernel
theorem d18_89 : decode prog_103_method_15_code 89 = .ok (.aload_n 1, 1) := by decide +kernel
theorem d18_90 : decode prog_103_method_15_code 90 = .ok (.astore_n 1, 1) := by decide +kernel
theorem d18_91 : decode prog_103_method_15_code 91 = .ok (.lload_n 2, 1) := by decide +kernel
theorem d18_92 : decode prog_103_method_15_code 92 = .ok (.aload_n 0, 1) := by decide +kernel
theorem d18_93 : decode prog_103_method_15_code 93 = .ok (.getfield 22, 3) := by decide +kernel
theorem d18_96 : decode prog_103_method_15_code 96 = .ok (.getfield 78, 3) := by decide +kernel
theorem d18_99 : decode prog_103_method_15_code 99 = .ok (.invokestatic 81, 3) := by decide +kernel
theorem d18_102 : decode prog_103_method_15_code 102 = .ok (.lstore_n 2, 1) := by decide +kernel
theorem d18_103 : decode prog_103_method_15_code 103 = .ok (.aload_n 0, 1) := by decide +kernel
theorem d18_104 : decode prog_103_method_15_code 104 = .ok (.aload_n 1, 1) := by decide +kernel
theorem d18_105 : decode prog_103_method_15_code 105 = .ok (.putfield 40, 3) := by decide +kernel
theorem d18_108 : decode prog_103_method_15_code 108 = .ok (.aload_n 0, 1) := by decide +kernel
theorem d18_109 : decode prog_103_method_15_code 109 = .ok (.lload_n 2, 1) := by decide +kernel
theorem d18_110 : decode prog_103_method_15_code 110 = .ok (.putfield 78, 3) := by decide +kernel
theorem d18_113 : decode prog_103_method_15_code 113 = .ok (.return_, 1) := by decide +kernel
theorem d19_0 : decode prog_79_method_3_code 0 = .ok (.aload_n 1, 1) := by decide +kernel
theorem d19_1 : decode prog_79_method_3_code 1 = .ok (.getfield 51, 3) := by decide +kernel
theorem d19_4 : decode prog_79_method_3_code 4 = .ok (.ifCond .eq 26, 3) := by decide +kernel
theorem d19_7 : decode prog_79_method_3_code 7 = .ok (.aload_n 0, 1) := by decide +kernel
theorem d19_8 : decode prog_79_method_3_code 8 = .ok (.getfield 51, 3) := by decide +kernel
theorem d19_11 : decode prog_79_method_3_code 11 = .ok (.ifCond .eq 15, 3) := by decide +kernel
theorem d19_14 : decode prog_79_method_3_code 14 = .ok (.aload_n 0, 1) := by decide +kernel
theorem d19_15 : decode prog_79_method_3_code 15 = .ok (.getfield 45, 3) := by decide +kernel
theorem d19_18 : decode prog_79_method_3_code 18 = .ok (.aload_n 1, 1) := by decide +kernel
theorem d19_19 : decode prog_79_method_3_code 19 = .ok (.getfield 45, 3) := by decide +kernel
theorem d19_22 : decode prog_79_method_3_code 22 = .ok (.lcmp, 1) := by decide +kernel
theorem d19_23 : decode prog_79_method_3_code 23 = .ok (.ifCond .le 7, 3) := by decide +kernel
theorem d19_30 : decode prog_79_method_3_code 30 = .ok (.iconst 0, 1) := by decide +kernel
theorem d19_31 : decode prog_79_method_3_code 31 = .ok (.ireturn, 1) := by decide +kernel
theorem d20_0 : decode jdk_29_method_66_code 0 = .ok (.lload_n 0, 1) := by decide +kernel
theorem d20_1 : decode jdk_29_method_66_code 1 = .ok (.lload_n 2, 1) := by decide +kernel
theorem d20_2 : decode jdk_29_method_66_code 2 = .ok (.lcmp, 1) := by decide +kernel
theorem d20_3 : decode jdk_29_method_66_code 3 = .ok (.ifCond .lt 7, 3) := by decide +kernel
theorem d20_6 : decode jdk_29_method_66_code 6 = .ok (.lload_n 0, 1) := by decide +kernel
theorem d20_7 : decode jdk_29_method_66_code 7 = .ok (.goto 4, 3) := by decide +kernel
theorem d20_10 : decode jdk_29_method_66_code 10 = .ok (.lload_n 2, 1) := by decide +kernel
theorem d20_11 : decode jdk_29_method_66_code 11 = .ok (.lreturn, 1) := by decide +kernel
theorem d21_0 : decode method_2_code 0 = .ok (.aload_n 0, 1) := by decide +kernel
theorem d21_1 : decode method_2_code 1 = .ok (.getfield 7, 3) := by decide +kernel
theorem d21_4 : decode method_2_code 4 = .ok (.aload_n 1, 1) := by decide +kernel
theorem d21_5 : decode method_2_code 5 = .ok (.getfield 7, 3) := by decide +kernel
theorem d21_8 : decode method_2_code 8 = .ok (.lcmp, 1) := by decide +kernel
theorem d21_9 : decode method_2_code 9 = .ok (.ifCond .ge 5, 3) := by decide +kernel
theorem d21_12 : decode method_2_code 12 = .ok (.iconst 1, 1) := by decide +kernel
theorem d21_13 : decode method_2_code 13 = .ok (.ireturn, 1) := by decide +kernel
theorem d21_14 : decode method_2_code 14 = .ok (.aload_n 0, 1) := by decide +kernel
theorem d21_15 : decode method_2_code 15 = .ok (.getfield 7, 3) := by decide +kernel
theorem d21_18 : decode method_2_code 18 = .ok (.aload_n 1, 1) := by decide +kernel
theorem d21_19 : decode method_2_code 19 = .ok (.getfield 7, 3) := by decide +kernel
theorem d21_22 : decode method_2_code 22 = .ok (.lcmp, 1) := by decide +kernel
theorem d21_23 : decode method_2_code 23 = .ok (.ifCond .le 5, 3) := by decide +kernel
theorem d21_26 : decode method_2_code 26 = .ok (.iconst 0, 1) := by decide +kernel
theorem d21_27 : decode method_2_code 27 = .ok (.ireturn, 1) := by decide +kernel
theorem d21_28 : decode method_2_code 28 = .ok (.aload_n 0, 1) := by decide +kernel
theorem d21_29 : decode method_2_code 29 = .ok (.getfield 13, 3) := by decide +kernel
theorem d21_32 : decode method_2_code 32 = .ok (.aload_n 1, 1) := by decide +kernel
theorem d21_33 : decode method_2_code 33 = .ok (.getfield 13, 3) := by decide +kernel
theorem d21_36 : decode method_2_code 36 = .ok (.lcmp, 1) := by decide +kernel
theorem d21_37 : decode method_2_code 37 = .ok (.ifCond .ge 7, 3) := by decide +kernel
theorem d21_40 : decode method_2_code 40 = .ok (.iconst 1, 1) := by decide +kernel
theorem d21_41 : decode method_2_code 41 = .ok (.goto 4, 3) := by decide +kernel
theorem d21_44 : decode method_2_code 44 = .ok (.iconst 0, 1) := by decide +kernel
theorem d21_45 : decode method_2_code 45 = .ok (.ireturn, 1) := by decide +kernel
theorem d22_0 : decode prog_103_method_3_code 0 = .ok (.aload_n 0, 1) := by decide +kernel
theorem d22_1 : decode prog_103_method_3_code 1 = .ok (.getfield 7, 3) := by decide +kernel
theorem d22_4 : decode prog_103_method_3_code 4 = .ok (.astore_n 1, 1) := by decide +kernel
theorem d22_5 : decode prog_103_method_3_code 5 = .ok (.aload_n 1, 1) := by decide +kernel
theorem d22_6 : decode prog_103_method_3_code 6 = .ok (.ifnull 18, 3) := by decide +kernel
theorem d22_9 : decode prog_103_method_3_code 9 = .ok (.aload_n 1, 1) := by decide +kernel
theorem d22_10 : decode prog_103_method_3_code 10 = .ok (.getfield 13, 3) := by decide +kernel
theorem d22_13 : decode prog_103_method_3_code 13 = .ok (.ifnull 11, 3) := by decide +kernel
theorem d22_16 : decode prog_103_method_3_code 16 = .ok (.aload_n 1, 1) := by decide +kernel
theorem d22_17 : decode prog_103_method_3_code 17 = .ok (.getfield 13, 3) := by decide +kernel
theorem d22_20 : decode prog_103_method_3_code 20 = .ok (.astore_n 1, 1) := by decide +kernel
theorem d22_21 : decode prog_103_method_3_code 21 = .ok (.goto (-16), 3) := by decide +kernel
theorem d22_24 : decode prog_103_method_3_code 24 = .ok (.aload_n 1, 1) := by decide +kernel
theorem d22_25 : decode prog_103_method_3_code 25 = .ok (.ifnonnull 7, 3) := by decide +kernel
theorem d22_28 : decode prog_103_method_3_code 28 = .ok (.aconst_null, 1) := by decide +kernel
theorem d22_29 : decode prog_103_method_3_code 29 = .ok (.goto 7, 3) := by decide +kernel
theorem d22_32 : decode prog_103_method_3_code 32 = .ok (.aload_n 1, 1) := by decide +kernel
theorem d22_33 : decode prog_103_method_3_code 33 = .ok (.getfield 18, 3) := by decide +kernel
theorem d22_36 : decode prog_103_method_3_code 36 = .ok (.areturn, 1) := by decide +kernel
theorem d23_0 : decode prog_103_method_6_code 0 = .ok (.aload_n 0, 1) := by decide +kernel
theorem d23_1 : decode prog_103_method_6_code 1 = .ok (.aload_n 0, 1) := by decide +kernel
theorem d23_2 : decode prog_103_method_6_code 2 = .ok (.getfield 7, 3) := by decide +kernel
theorem d23_5 : decode prog_103_method_6_code 5 = .ok (.aload_n 1, 1) := by decide +kernel
theorem d23_6 : decode prog_103_method_6_code 6 = .ok (.invokestatic 32, 3) := by decide +kernel
theorem d23_9 : decode prog_103_method_6_code 9 = .ok (.putfield 7, 3) := by decide +kernel
theorem d23_12 : decode prog_103_method_6_code 12 = .ok (.return_, 1) := by decide +kernel
theorem d24_0 : decode prog_103_method_13_code 0 = .ok (.aload_n 0, 1) := by decide +kernel
theorem d24_1 : decode prog_103_method_13_code 1 = .ok (.getfield 18, 3) := by decide +kernel
theorem d24_4 : decode prog_103_method_13_code 4 = .ok (.aload_n 1, 1) := by decide +kernel
theorem d24_5 : decode prog_103_method_13_code 5 = .ok (.if_acmp .ne 15, 3) := by decide +kernel
theorem d24_8 : decode prog_103_method_13_code 8 = .ok (.aload_n 0, 1) := by decide +kernel
theorem d24_9 : decode prog_103_method_13_code 9 = .ok (.getfield 13, 3) := by decide +kernel
theorem d24_12 : decode prog_103_method_13_code 12 = .ok (.aload_n 0, 1) := by decide +kernel
theorem d24_13 : decode prog_103_method_13_code 13 = .ok (.getfield 22, 3) := by decide +kernel
theorem d24_16 : decode prog_103_method_13_code 16 = .ok (.invokestatic 72, 3) := by decide +kernel
theorem d24_19 : decode prog_103_method_13_code 19 = .ok (.areturn, 1) := by decide +kernel
theorem d24_20 : decode prog_103_method_13_code 20 = .ok (.aload_n 1, 1) := by decide +kernel
theorem d24_21 : decode prog_103_method_13_code 21 = .ok (.aload_n 0, 1) := by decide +kernel
theorem d24_22 : decode prog_103_method_13_code 22 = .ok (.getfield 18, 3) := by decide +kernel
theorem d24_25 : decode prog_103_method_13_code 25 = .ok (.invokestatic 36, 3) := by decide +kernel
theorem d24_28 : decode prog_103_method_13_code 28 = .ok (.ifCond .eq 18, 3) := by decide +kernel
theorem d24_31 : decode prog_103_method_13_code 31 = .ok (.aload_n 0, 1) := by decide +kernel
theorem d24_32 : decode prog_103_method_13_code 32 = .ok (.aload_n 0, 1) := by decide +kernel
theorem d24_33 : decode prog_103_method_13_code 33 = .ok (.getfield 13, 3) := by decide +kernel
theorem d24_36 : decode prog_103_method_13_code 36 = .ok (.aload_n 1, 1) := by decide +kernel
theorem d24_37 : decode prog_103_method_13_code 37 = .ok (.invokestatic 32, 3) := by decide +kernel
theorem d24_40 : decode prog_103_method_13_code 40 = .ok (.putfield 13, 3) := by decide +kernel
theorem d24_43 : decode prog_103_method_13_code 43 = .ok (.goto 15, 3) := by decide +kernel
theorem d24_46 : decode prog_103_method_13_code 46 = .ok (.aload_n 0, 1) := by decide +kernel
theorem d24_47 : decode prog_103_method_13_code 47 = .ok (.aload_n 0, 1) := by decide +kernel
theorem d24_48 : decode prog_103_method_13_code 48 = .ok (.getfield 22, 3) := by decide +kernel
theorem d24_51 : decode prog_103_method_13_code 51 = .ok (.aload_n 1, 1) := by decide +kernel
theorem d24_52 : decode prog_103_method_13_code 52 = .ok (.invokestatic 32, 3) := by decide +kernel
theorem d24_55 : decode prog_103_method_13_code 55 = .ok (.putfield 22, 3) := by decide +kernel
theorem d24_58 : decode prog_103_method_13_code 58 = .ok (.aload_n 0, 1) := by decide +kernel
theorem d24_59 : decode prog_103_method_13_code 59 = .ok (.invokestatic 68, 3) := by decide +kernel
theorem d24_62 : decode prog_103_method_13_code 62 = .ok (.aload_n 0, 1) := by decide +kernel
theorem d24_63 : decode prog_103_method_13_code 63 = .ok (.areturn, 1) := by decide +kernel
theorem d25_0 : decode prog_103_method_14_code 0 = .ok (.aload_n 0, 1) := by decide +kernel
theorem d25_1 : decode prog_103_method_14_code 1 = .ok (.ifnonnull 5, 3) := by decide +kernel
theorem d25_4 : decode prog_103_method_14_code 4 = .ok (.aload_n 1, 1) := by decide +kernel
theorem d25_5 : decode prog_103_method_14_code 5 = .ok (.areturn, 1) := by decide +kernel
theorem d25_6 : decode prog_103_method_14_code 6 = .ok (.aload_n 1, 1) := by decide +kernel
theorem d25_7 : decode prog_103_method_14_code 7 = .ok (.ifnonnull 5, 3) := by decide +kernel
theorem d25_10 : decode prog_103_method_14_code 10 = .ok (.aload_n 0, 1) := by decide +kernel
theorem d25_11 : decode prog_103_method_14_code 11 = .ok (.areturn, 1) := by decide +kernel
theorem d25_12 : decode prog_103_method_14_code 12 = .ok (.aload_n 0, 1) := by decide +kernel
theorem d25_13 : decode prog_103_method_14_code 13 = .ok (.getfield 65, 3) := by decide +kernel
theorem d25_16 : decode prog_103_method_14_code 16 = .ok (.aload_n 1, 1) := by decide +kernel
theorem d25_17 : decode prog_103_method_14_code 17 = .ok (.getfield 65, 3) := by decide +kernel
theorem d25_20 : decode prog_103_method_14_code 20 = .ok (.lcmp, 1) := by decide +kernel
theorem d25_21 : decode prog_103_method_14_code 21 = .ok (.ifCond .le 21, 3) := by decide +kernel
theorem d25_24 : decode prog_103_method_14_code 24 = .ok (.aload_n 0, 1) := by decide +kernel
theorem d25_25 : decode prog_103_method_14_code 25 = .ok (.aload_n 0, 1) := by decide +kernel
theorem d25_26 : decode prog_103_method_14_code 26 = .ok (.getfield 22, 3) := by decide +kernel
theorem d25_29 : decode prog_103_method_14_code 29 = .ok (.aload_n 1, 1) := by decide +kernel
theorem d25_30 : decode prog_103_method_14_code 30 = .ok (.invokestatic 72, 3) := by decide +kernel
theorem d25_33 : decode prog_103_method_14_code 33 = .ok (.putfield 22, 3) := by decide +kernel
theorem d25_36 : decode prog_103_method_14_code 36 = .ok (.aload_n 0, 1) := by decide +kernel
theorem d25_37 : decode prog_103_method_14_code 37 = .ok (.invokestatic 68, 3) := by decide +kernel
theorem d25_40 : decode prog_103_method_14_code 40 = .ok (.aload_n 0, 1) := by decide +kernel
theorem d25_41 : decode prog_103_method_14_code 41 = .ok (.areturn, 1) := by decide +kernel
theorem d25_42 : decode prog_103_method_14_code 42 = .ok (.aload_n 1, 1) := by decide +kernel
theorem d25_43 : decode prog_103_method_14_code 43 = .ok (.aload_n 0, 1) := by decide +kernel
theorem d25_44 : decode prog_103_method_14_code 44 = .ok (.aload_n 1, 1) := by decide +kernel
theorem d25_45 : decode prog_103_method_14_code 45 = .ok (.getfield 13, 3) := by decide +kernel
theorem d25_48 : decode prog_103_method_14_code 48 = .ok (.invokestatic 72, 3) := by decide +kernel
theorem d25_51 : decode prog_103_method_14_code 51 = .ok (.putfield 13, 3) := by decide +kernel
theorem d25_54 : decode prog_103_method_14_code 54 = .ok (.aload_n 1, 1) := by decide +kernel
theorem d25_55 : decode prog_103_method_14_code 55 = .ok (.invokestatic 68, 3) := by decide +kernel
theorem d25_58 : decode prog_103_method_14_code 58 = .ok (.aload_n 1, 1) := by decide +kernel
theorem d25_59 : decode prog_103_method_14_code 59 = .ok (.areturn, 1) := by decide +kernel
def B0 : Bod := ("com/example/apportion/apportion/JobsByStartFirstPinLaw", "law", code, maxLocals, ret, room_1)
theorem pl0 : plainFor (⟨"com/example/apportion/apportion/JobsByStartFirstPinLaw", "law", "(JJJJI)Z"⟩ : MethodName) = true := plainFor_of_name (by first | (simp [plainName, overriddenIn]; done) | decide +kernel)
def B1 : Bod := ("com/example/apportion/apportion/JobsByStart", "<init>", prog_103_method_1_code, 1, none, ({ frames := 1, cells := 0, slots := 0, locals := 12 } : Room))
theorem pl1 : plainFor (⟨"com/example/apportion/apportion/JobsByStart", "<init>", "()V"⟩ : MethodName) = true := plainFor_of_name (by first | (simp [plainName, overriddenIn]; done) | decide +kernel)
def B3 : Bod := ("com/example/apportion/apportion/Request", "<init>", prog_148_method_1_code, 11, none, ({ frames := 3, cells := 0, slots := 0, locals := 48 } : Room))
theorem pl3 : plainFor (⟨"com/example/apportion/apportion/Request", "<init>", "(Ljava/lang/String;JJJJLjava/math/BigInteger;)V"⟩ : MethodName) = true := plainFor_of_name (by first | (simp [plainName, overriddenIn]; done) | decide +kernel)
def B4 : Bod := ("com/example/apportion/apportion/Request", "<init>", prog_148_method_2_code, 12, none, ({ frames := 2, cells := 0, slots := 0, locals := 24 } : Room))
theorem pl4 : plainFor (⟨"com/example/apportion/apportion/Request", "<init>", "(Ljava/lang/String;JJJJLjava/math/BigInteger;Z)V"⟩ : MethodName) = true := plainFor_of_name (by first | (simp [plainName, overriddenIn]; done) | decide +kernel)
def B5 : Bod := ("java/lang/Record", "<init>", jdk_30_method_1_code, 1, none, ({ frames := 1, cells := 0, slots := 0, locals := 12 } : Room))
theorem pl5 : plainFor (⟨"java/lang/Record", "<init>", "()V"⟩ : MethodName) = true := plainFor_of_name (by first | (simp [plainName, overriddenIn]; done) | decide +kernel)
def B6 : Bod := ("com/example/apportion/apportion/GridJob", "<init>", prog_79_method_1_code, 5, none, ({ frames := 1, cells := 0, slots := 0, locals := 14 } : Room))
theorem pl6 : plainFor (⟨"com/example/apportion/apportion/GridJob", "<init>", "(JLcom/example/apportion/apportion/Request;I)V"⟩ : MethodName) = true := plainFor_of_name (by first | (simp [plainName, overriddenIn]; done) | decide +kernel)
def B7 : Bod := ("com/example/apportion/apportion/Request", "id", prog_148_method_15_code, 1, some (.object "java/lang/String"), ({ frames := 0, cells := 0, slots := 0, locals := 0 } : Room))
theorem pl7 : plainFor (⟨"com/example/apportion/apportion/Request", "id", "()Ljava/lang/String;"⟩ : MethodName) = true := plainFor_of_name (by first | (simp [plainName, overriddenIn]; done) | decide +kernel)
def B8 : Bod := ("com/example/apportion/apportion/Request", "arrival", prog_148_method_16_code, 1, some .long, ({ frames := 0, cells := 0, slots := 0, locals := 0 } : Room))
theorem pl8 : plainFor (⟨"com/example/apportion/apportion/Request", "arrival", "()J"⟩ : MethodName) = true := plainFor_of_name (by first | (simp [plainName, overriddenIn]; done) | decide +kernel)
def B9 : Bod := ("com/example/apportion/apportion/Request", "ready", prog_148_method_17_code, 1, some .long, ({ frames := 0, cells := 0, slots := 0, locals := 0 } : Room))
theorem pl9 : plainFor (⟨"com/example/apportion/apportion/Request", "ready", "()J"⟩ : MethodName) = true := plainFor_of_name (by first | (simp [plainName, overriddenIn]; done) | decide +kernel)
def B10 : Bod := ("com/example/apportion/apportion/Request", "length", prog_148_method_18_code, 1, some .long, ({ frames := 0, cells := 0, slots := 0, locals := 0 } : Room))
theorem pl10 : plainFor (⟨"com/example/apportion/apportion/Request", "length", "()J"⟩ : MethodName) = true := plainFor_of_name (by first | (simp [plainName, overriddenIn]; done) | decide +kernel)
def B11 : Bod := ("com/example/apportion/apportion/Request", "deadline", prog_148_method_19_code, 1, some .long, ({ frames := 0, cells := 0, slots := 0, locals := 0 } : Room))
theorem pl11 : plainFor (⟨"com/example/apportion/apportion/Request", "deadline", "()J"⟩ : MethodName) = true := plainFor_of_name (by first | (simp [plainName, overriddenIn]; done) | decide +kernel)
def B12 : Bod := ("com/example/apportion/apportion/Request", "hasDeadline", prog_148_method_21_code, 1, some .boolean, ({ frames := 0, cells := 0, slots := 0, locals := 0 } : Room))
theorem pl12 : plainFor (⟨"com/example/apportion/apportion/Request", "hasDeadline", "()Z"⟩ : MethodName) = true := plainFor_of_name (by first | (simp [plainName, overriddenIn]; done) | decide +kernel)
def B13 : Bod := ("com/example/apportion/apportion/JobsByStart", "add", prog_103_method_5_code, 2, none, ({ frames := 4, cells := 1, slots := 6, locals := 80 } : Room))
theorem pl13 : plainFor (⟨"com/example/apportion/apportion/JobsByStart", "add", "(Lcom/example/apportion/apportion/GridJob;)V"⟩ : MethodName) = true := plainFor_of_name (by first | (simp [plainName, overriddenIn]; done) | decide +kernel)
def B14 : Bod := ("com/example/apportion/apportion/JobsByStart$Node", "<init>", prog_105_method_1_code, 2, none, ({ frames := 1, cells := 0, slots := 0, locals := 15 } : Room))
theorem pl14 : plainFor (⟨"com/example/apportion/apportion/JobsByStart$Node", "<init>", "(Lcom/example/apportion/apportion/GridJob;)V"⟩ : MethodName) = true := plainFor_of_name (by first | (simp [plainName, overriddenIn]; done) | decide +kernel)
def B15 : Bod := ("com/example/apportion/apportion/SplitMix64", "mix", prog_169_method_4_code, 2, some .long, ({ frames := 0, cells := 0, slots := 0, locals := 0 } : Room))
theorem pl15 : plainFor (⟨"com/example/apportion/apportion/SplitMix64", "mix", "(J)J"⟩ : MethodName) = true := plainFor_of_name (by first | (simp [plainName, overriddenIn]; done) | decide +kernel)
def B16 : Bod := ("com/example/apportion/apportion/JobsByStart", "insert", prog_103_method_12_code, 3, some (.object "com/example/apportion/apportion/JobsByStart$Node"), ({ frames := 3, cells := 0, slots := 0, locals := 60 } : Room))
theorem pl16 : plainFor (⟨"com/example/apportion/apportion/JobsByStart", "insert", "(Lcom/example/apportion/apportion/JobsByStart$Node;Lcom/example/apportion/apportion/JobsByStart$Node;)Lcom/example/apportion/apportion/JobsByStart$Node;"⟩ : MethodName) = true := plainFor_of_name (by first | (simp [plainName, overriddenIn]; done) | decide +kernel)
def B17 : Bod := ("com/example/apportion/apportion/JobsByStart", "precedes", prog_103_method_11_code, 2, some .boolean, ({ frames := 0, cells := 0, slots := 0, locals := 0 } : Room))
theorem pl17 : plainFor (⟨"com/example/apportion/apportion/JobsByStart", "precedes", "(Lcom/example/apportion/apportion/GridJob;Lcom/example/apportion/apportion/GridJob;)Z"⟩ : MethodName) = true := plainFor_of_name (by first | (simp [plainName, overriddenIn]; done) | decide +kernel)
def B18 : Bod := ("com/example/apportion/apportion/JobsByStart", "pull", prog_103_method_15_code, 4, none, ({ frames := 1, cells := 0, slots := 0, locals := 20 } : Room))
theorem pl18 : plainFor (⟨"com/example/apportion/apportion/JobsByStart", "pull", "(Lcom/example/apportion/apportion/JobsByStart$Node;)V"⟩ : MethodName) = true := plainFor_of_name (by first | (simp [plainName, overriddenIn]; done) | decide +kernel)
def B19 : Bod := ("com/example/apportion/apportion/GridJob", "deadlineLaterThan", prog_79_method_3_code, 2, some .boolean, ({ frames := 0, cells := 0, slots := 0, locals := 0 } : Room))
theorem pl19 : plainFor (⟨"com/example/apportion/apportion/GridJob", "deadlineLaterThan", "(Lcom/example/apportion/apportion/GridJob;)Z"⟩ : MethodName) = true := plainFor_of_name (by first | (simp [plainName, overriddenIn]; done) | decide +kernel)
def B20 : Bod := ("java/lang/Math", "max", jdk_29_method_66_code, 4, some .long, ({ frames := 0, cells := 0, slots := 0, locals := 0 } : Room))
theorem pl20 : plainFor (⟨"java/lang/Math", "max", "(JJ)J"⟩ : MethodName) = true := Jvm.Free.JP.mathPlain rfl (by decide +kernel)
def B21 : Bod := ("com/example/apportion/apportion/JobsByStartFirstPinLaw", "before", method_2_code, 2, some .boolean, ({ frames := 0, cells := 0, slots := 0, locals := 0 } : Room))
theorem pl21 : plainFor (⟨"com/example/apportion/apportion/JobsByStartFirstPinLaw", "before", "(Lcom/example/apportion/apportion/GridJob;Lcom/example/apportion/apportion/GridJob;)Z"⟩ : MethodName) = true := plainFor_of_name (by first | (simp [plainName, overriddenIn]; done) | decide +kernel)
def B22 : Bod := ("com/example/apportion/apportion/JobsByStart", "first", prog_103_method_3_code, 2, some (.object "com/example/apportion/apportion/GridJob"), ({ frames := 0, cells := 0, slots := 0, locals := 0 } : Room))
theorem pl22 : plainFor (⟨"com/example/apportion/apportion/JobsByStart", "first", "()Lcom/example/apportion/apportion/GridJob;"⟩ : MethodName) = true := plainFor_of_name (by first | (simp [plainName, overriddenIn]; done) | decide +kernel)
def B23 : Bod := ("com/example/apportion/apportion/JobsByStart", "remove", prog_103_method_6_code, 2, none, ({ frames := 6, cells := 0, slots := 0, locals := 120 } : Room))
theorem pl23 : plainFor (⟨"com/example/apportion/apportion/JobsByStart", "remove", "(Lcom/example/apportion/apportion/GridJob;)V"⟩ : MethodName) = true := plainFor_of_name (by first | (simp [plainName, overriddenIn]; done) | decide +kernel)
def B24 : Bod := ("com/example/apportion/apportion/JobsByStart", "without", prog_103_method_13_code, 2, some (.object "com/example/apportion/apportion/JobsByStart$Node"), ({ frames := 5, cells := 0, slots := 0, locals := 100 } : Room))
theorem pl24 : plainFor (⟨"com/example/apportion/apportion/JobsByStart", "without", "(Lcom/example/apportion/apportion/JobsByStart$Node;Lcom/example/apportion/apportion/GridJob;)Lcom/example/apportion/apportion/JobsByStart$Node;"⟩ : MethodName) = true := plainFor_of_name (by first | (simp [plainName, overriddenIn]; done) | decide +kernel)
def B25 : Bod := ("com/example/apportion/apportion/JobsByStart", "join", prog_103_method_14_code, 2, some (.object "com/example/apportion/apportion/JobsByStart$Node"), ({ frames := 4, cells := 0, slots := 0, locals := 80 } : Room))
theorem pl25 : plainFor (⟨"com/example/apportion/apportion/JobsByStart", "join", "(Lcom/example/apportion/apportion/JobsByStart$Node;Lcom/example/apportion/apportion/JobsByStart$Node;)Lcom/example/apportion/apportion/JobsByStart$Node;"⟩ : MethodName) = true := plainFor_of_name (by first | (simp [plainName, overriddenIn]; done) | decide +kernel)
def L_GJ : OLay := [("com/example/apportion/apportion/GridJob", "machine", "I"), ("com/example/apportion/apportion/GridJob", "number", "J"), ("com/example/apportion/apportion/GridJob", "id", "Ljava/lang/String;"), ("com/example/apportion/apportion/GridJob", "arrival", "J"), ("com/example/apportion/apportion/GridJob", "ready", "J"), ("com/example/apportion/apportion/GridJob", "length", "J"), ("com/example/apportion/apportion/GridJob", "deadline", "J"), ("com/example/apportion/apportion/GridJob", "hasDeadline", "Z"), ("com/example/apportion/apportion/GridJob", "servers", "I"), ("com/example/apportion/apportion/GridJob", "start", "J"), ("com/example/apportion/apportion/GridJob", "end", "J")]
theorem lay_GJ {Z : State} {a0 : Array Value} (hw : HW Z a0) : OLaids Z a0 "com/example/apportion/apportion/GridJob" L_GJ := by
  intro q hq
  simp only [L_GJ, List.mem_cons, List.not_mem_nil, or_false] at hq
  rcases hq with rfl | rfl | rfl | rfl | rfl | rfl | rfl | rfl | rfl | rfl | rfl
  · exact ⟨Or.inl (w47 hw), .int, by decide⟩
  · exact ⟨Or.inr (w49 hw), .long, by decide⟩
  · exact ⟨Or.inr (w56 hw), (.object "java/lang/String"), by decide⟩
  · exact ⟨Or.inr (w63 hw), .long, by decide⟩
  · exact ⟨Or.inr (w70 hw), .long, by decide⟩
  · exact ⟨Or.inr (w77 hw), .long, by decide⟩
  · exact ⟨Or.inr (w84 hw), .long, by decide⟩
  · exact ⟨Or.inr (w91 hw), .boolean, by decide⟩
  · exact ⟨Or.inr (w93 hw), .int, by decide⟩
  · exact ⟨Or.inl (w95 hw), .long, by decide⟩
  · exact ⟨Or.inl (w125 hw), .long, by decide⟩
def L_ND : OLay := [("com/example/apportion/apportion/JobsByStart$Node", "job", "Lcom/example/apportion/apportion/GridJob;"), ("com/example/apportion/apportion/JobsByStart$Node", "priority", "J"), ("com/example/apportion/apportion/JobsByStart$Node", "latest", "Lcom/example/apportion/apportion/GridJob;"), ("com/example/apportion/apportion/JobsByStart$Node", "lastEnd", "J"), ("com/example/apportion/apportion/JobsByStart$Node", "left", "Lcom/example/apportion/apportion/JobsByStart$Node;"), ("com/example/apportion/apportion/JobsByStart$Node", "right", "Lcom/example/apportion/apportion/JobsByStart$Node;")]
theorem lay_ND {Z : State} {a0 : Array Value} (hw : HW Z a0) : OLaids Z a0 "com/example/apportion/apportion/JobsByStart$Node" L_ND := by
  intro q hq
  simp only [L_ND, List.mem_cons, List.not_mem_nil, or_false] at hq
  rcases hq with rfl | rfl | rfl | rfl | rfl | rfl
  · exact ⟨Or.inr (w112 hw), (.object "com/example/apportion/apportion/GridJob"), by decide⟩
  · exact ⟨Or.inr (w121 hw), .long, by decide⟩
  · exact ⟨Or.inl (w123 hw), (.object "com/example/apportion/apportion/GridJob"), by decide⟩
  · exact ⟨Or.inl (w127 hw), .long, by decide⟩
  · exact ⟨Or.inl (w137 hw), (.object "com/example/apportion/apportion/JobsByStart$Node"), by decide⟩
  · exact ⟨Or.inl (w155 hw), (.object "com/example/apportion/apportion/JobsByStart$Node"), by decide⟩
def L_RQ : OLay := [("com/example/apportion/apportion/Request", "id", "Ljava/lang/String;"), ("com/example/apportion/apportion/Request", "arrival", "J"), ("com/example/apportion/apportion/Request", "ready", "J"), ("com/example/apportion/apportion/Request", "length", "J"), ("com/example/apportion/apportion/Request", "deadline", "J"), ("com/example/apportion/apportion/Request", "servers", "Ljava/math/BigInteger;"), ("com/example/apportion/apportion/Request", "hasDeadline", "Z")]
theorem lay_RQ {Z : State} {a0 : Array Value} (hw : HW Z a0) : OLaids Z a0 "com/example/apportion/apportion/Request" L_RQ := by
  intro q hq
  simp only [L_RQ, List.mem_cons, List.not_mem_nil, or_false] at hq
  rcases hq with rfl | rfl | rfl | rfl | rfl | rfl | rfl
  · exact ⟨Or.inr (w26 hw), (.object "java/lang/String"), by decide⟩
  · exact ⟨Or.inr (w28 hw), .long, by decide⟩
  · exact ⟨Or.inr (w30 hw), .long, by decide⟩
  · exact ⟨Or.inr (w32 hw), .long, by decide⟩
  · exact ⟨Or.inr (w34 hw), .long, by decide⟩
  · exact ⟨Or.inr (w36 hw), (.object "java/math/BigInteger"), by decide⟩
  · exact ⟨Or.inr (w38 hw), .boolean, by decide⟩
def L_TS : OLay := [("com/example/apportion/apportion/JobsByStart", "root", "Lcom/example/apportion/apportion/JobsByStart$Node;")]
theorem lay_TS {Z : State} {a0 : Array Value} (hw : HW Z a0) : OLaids Z a0 "com/example/apportion/apportion/JobsByStart" L_TS := by
  intro q hq
  simp only [L_TS, List.mem_cons, List.not_mem_nil, or_false] at hq
  rcases hq with rfl
  · exact ⟨Or.inl (w103 hw), (.object "com/example/apportion/apportion/JobsByStart$Node"), by decide⟩

/-- a job as the law makes it -/
abbrev jv (s n : Int64) : List Value := [.int (-1), .long n, .null, .long 0, .long 0, .long 1, .long 0, .int 1, .int 1, .long s, .long 0]
def JOK (Z : State) (h : Heap) (JS : List Addr) (sf nf : Addr → Int64) : Prop := ∀ j ∈ JS, Ob Z h j "com/example/apportion/apportion/GridJob" L_GJ (jv (sf j) (nf j))
/-- which of two jobs stands first -/
def lt (sf nf : Addr → Int64) (x y : Addr) : Prop := (sf x).toInt < (sf y).toInt ∨ ((sf x).toInt = (sf y).toInt ∧ (nf x).toInt < (nf y).toInt)
/-- a tree of nodes: its jobs from left to right, its nodes -/
def TR (Z : State) (n0 : Nat) (JS : List Addr) (h : Heap) : Nat → Value → List Addr → List Addr → Prop
  | 0, v, js, ws => v = .null ∧ js = [] ∧ ws = []
  | f + 1, v, js, ws => (v = .null ∧ js = [] ∧ ws = []) ∨ ∃ (a j t : Addr) (p le : Int64) (lv rv : Value) (jl jr wl wr : List Addr), v = .ref a ∧ Ob Z h a "com/example/apportion/apportion/JobsByStart$Node" L_ND [.ref j, .long p, .ref t, .long le, lv, rv] ∧ j ∈ JS ∧ t ∈ JS ∧ n0 ≤ a ∧ TR Z n0 JS h f lv jl wl ∧ TR Z n0 JS h f rv jr wr ∧ js = jl ++ j :: jr ∧ ws = a :: (wl ++ wr)
section T
variable {Z : State} {n0 : Nat} {JS : List Addr} {h h' : Heap} {sf nf : Addr → Int64} {v : Value} {js ws W : List Addr} {f f' : Nat}
theorem TR_zero : TR Z n0 JS h 0 v js ws = (v = .null ∧ js = [] ∧ ws = []) := rfl
theorem TR_succ : TR Z n0 JS h (f + 1) v js ws = ((v = .null ∧ js = [] ∧ ws = []) ∨ ∃ (a j t : Addr) (p le : Int64) (lv rv : Value) (jl jr wl wr : List Addr), v = .ref a ∧ Ob Z h a "com/example/apportion/apportion/JobsByStart$Node" L_ND [.ref j, .long p, .ref t, .long le, lv, rv] ∧ j ∈ JS ∧ t ∈ JS ∧ n0 ≤ a ∧ TR Z n0 JS h f lv jl wl ∧ TR Z n0 JS h f rv jr wr ∧ js = jl ++ j :: jr ∧ ws = a :: (wl ++ wr)) := rfl
theorem TR.nil : TR Z n0 JS h f .null [] [] := by cases f <;> first | exact ⟨rfl, rfl, rfl⟩ | exact Or.inl ⟨rfl, rfl, rfl⟩
theorem TR.up (T : TR Z n0 JS h f v js ws) : TR Z n0 JS h (f + 1) v js ws := by
  induction f generalizing v js ws with
  | zero => exact Or.inl T
  | succ f ih =>
    rw [TR_succ] at T
    rcases T with T | ⟨a, j, t, p, le, lv, rv, jl, jr, wl, wr, h1, h2, h3, h4, h5, h6, h7, h8, h9⟩
    · exact Or.inl T
    · exact Or.inr ⟨a, j, t, p, le, lv, rv, jl, jr, wl, wr, h1, h2, h3, h4, h5, ih h6, ih h7, h8, h9⟩
theorem TR.le (T : TR Z n0 JS h f v js ws) (q : f ≤ f') : TR Z n0 JS h f' v js ws := by
  induction q with
  | refl => exact T
  | step _ ih => exact ih.up
theorem TR.keep (T : TR Z n0 JS h f v js ws) (K : Keep h h' W) (q : ∀ x ∈ ws, x ∉ W) : TR Z n0 JS h' f v js ws := by
  induction f generalizing v js ws with
  | zero => exact T
  | succ f ih =>
    rw [TR_succ] at T
    rcases T with T | ⟨a, j, t, p, le, lv, rv, jl, jr, wl, wr, h1, h2, h3, h4, h5, h6, h7, h8, h9⟩
    · exact Or.inl T
    · subst h9
      exact Or.inr ⟨a, j, t, p, le, lv, rv, jl, jr, wl, wr, h1, h2.keep K (q a (by simp)), h3, h4, h5, ih h6 (fun x hx => q x (by simp [hx])), ih h7 (fun x hx => q x (by simp [hx])), h8, rfl⟩
theorem TR.nodes (T : TR Z n0 JS h f v js ws) : ∀ x ∈ ws, Exa Z h x "com/example/apportion/apportion/JobsByStart$Node" ∧ n0 ≤ x := by
  induction f generalizing v js ws with
  | zero => obtain ⟨-, -, rfl⟩ := T; intro x hx; cases hx
  | succ f ih =>
    rw [TR_succ] at T
    rcases T with ⟨-, -, rfl⟩ | ⟨a, j, t, p, le, lv, rv, jl, jr, wl, wr, h1, h2, h3, h4, h5, h6, h7, h8, rfl⟩
    · intro x hx; cases hx
    · intro x hx
      simp only [List.mem_cons, List.mem_append] at hx
      rcases hx with rfl | hx | hx
      · exact ⟨h2.1, h5⟩
      · exact ih h6 x hx
      · exact ih h7 x hx
theorem TR.jobs (T : TR Z n0 JS h f v js ws) : ∀ x ∈ js, x ∈ JS := by
  induction f generalizing v js ws with
  | zero => obtain ⟨-, rfl, -⟩ := T; intro x hx; cases hx
  | succ f ih =>
    rw [TR_succ] at T
    rcases T with ⟨-, rfl, -⟩ | ⟨a, j, t, p, le, lv, rv, jl, jr, wl, wr, h1, h2, h3, h4, h5, h6, h7, rfl, h9⟩
    · intro x hx; cases hx
    · intro x hx
      simp only [List.mem_cons, List.mem_append] at hx
      rcases hx with hx | rfl | hx
      · exact ih h6 x hx
      · exact h3
      · exact ih h7 x hx
theorem JOK.keep (J : JOK Z h JS sf nf) (K : Keep h h' W) (q : ∀ j ∈ JS, j ∉ W) : JOK Z h' JS sf nf := fun j hj => (J j hj).keep K (q j hj)
theorem JOK.off (J : JOK Z h JS sf nf) {j x : Addr} (hj : j ∈ JS) (E : Exa Z h x "com/example/apportion/apportion/JobsByStart$Node") : j ≠ x := ne_exa (J j hj).1 E (by decide)
theorem JOK.offs (J : JOK Z h JS sf nf) (E : ∀ x ∈ W, Exa Z h x "com/example/apportion/apportion/JobsByStart$Node") : ∀ j ∈ JS, j ∉ W := fun j hj q => J.off hj (E j q) rfl
end T

theorem rec_met {l : Launch} {Z : State} {a0 : Array Value} (hw : HW Z a0) {n0 : Nat} {h : Heap} (q : Addr) : OMet l (⟨"java/lang/Record", "<init>", "()V"⟩ : MethodName) B5 Z n0 #[(.ref q)] h (fun v h' => v = none ∧ h = h') := by
  refine OMet.of_wp (ls0 := #[.val (.ref q)]) pl5 rfl rfl (fun m => own_entry 0 rfl rfl) ?_
  refine WP.aloadN d5_0 rfl rfl (pc' := 1) rfl ?_
  refine WP.initO (a := q) d5_1 (w24 hw) (w7 hw) (w8 hw) rfl (by decide) (Nat.le_of_ble_eq_true rfl) (pc' := 4) rfl ?_
  exact WP.ret0 d5_4 rfl (by decide) (by decide) ⟨rfl, rfl⟩
theorem rq2_met {l : Launch} {Z : State} {a0 : Array Value} (hw : HW Z a0) {n0 : Nat} {h : Heap} (q : Addr) (g_q : n0 ≤ q) (O_q : Ob Z h q "com/example/apportion/apportion/Request" L_RQ [.null, (.long 0), (.long 0), (.long 0), (.long 0), .null, (.int 0)]) : OMet l (⟨"com/example/apportion/apportion/Request", "<init>", "(Ljava/lang/String;JJJJLjava/math/BigInteger;Z)V"⟩ : MethodName) B4 Z n0 #[(.ref q), .null, (.long (0 : Int64)), (.long (0 : Int64)), (.long (1 : Int64)), (.long (0 : Int64)), .null, (.int (1 : Int32))] h (fun v h' => v = none ∧ Keep h h' [q] ∧ Ob Z h' q "com/example/apportion/apportion/Request" L_RQ [.null, .long 0, .long 0, .long 1, .long 0, .null, .int 1]) := by
  refine OMet.of_wp (ls0 := #[.val (.ref q), .val .null, .val (.long (0 : Int64)), .second, .val (.long (0 : Int64)), .second, .val (.long (1 : Int64)), .second, .val (.long (0 : Int64)), .second, .val .null, .val (.int (1 : Int32))]) pl4 rfl rfl (fun m => own_entry 0 rfl rfl) ?_
  have k32_1 : (1 : Int32).toInt = 1 := by decide
  have k64_0 : (0 : Int64).toInt = 0 := by decide
  have k64_1 : (1 : Int64).toInt = 1 := by decide
  have KE : Keep h h [q] := Keep.refl _ _
  refine WP.aloadN d4_0 rfl rfl (pc' := 1) rfl ?_
  refine WP.callI (a := q) (y := (⟨"java/lang/Record", "<init>", "()V"⟩ : MethodName)) (By := B5) (as := []) (rest := []) d4_1 (w19 hw) (w20 hw) (w22 hw) (w23 hw) rfl rfl (by decide) (rec_met hw q) pd_0 rfl rfl rfl (by decide) (Nat.le_of_ble_eq_true rfl) (by decide) (by decide) (pc' := 4) rfl ?_
  rintro _ _ ⟨rfl, rfl⟩
  show WP _ _ _ _ _ _ _ _ _ _ []
  refine WP.aloadN d4_4 rfl rfl (pc' := 5) rfl ?_
  refine WP.aloadN d4_5 rfl rfl (pc' := 6) rfl ?_
  refine WP.putf (i := 0) d4_6 (w25 hw) O_q (lay_RQ hw) (by decide) rfl (Or.inr ⟨(w26 hw), rfl, rfl⟩) (w10 hw) (t := (.object "java/lang/String")) (by decide) rfl rfl g_q (pc' := 9) rfl ?_
  intro h2 K3 O_n
  replace KE := KE.trans K3 (own_all (Or.inl (by simp)) own_all0)
  replace O_q : Ob Z h2 q "com/example/apportion/apportion/Request" L_RQ [.null, (.long 0), (.long 0), (.long 0), (.long 0), .null, (.int 0)] := O_n
  clear O_n
  refine WP.aloadN d4_9 rfl rfl (pc' := 10) rfl ?_
  refine WP.lloadN d4_10 rfl (pc' := 11) rfl ?_
  refine WP.putf (i := 1) d4_11 (w27 hw) O_q (lay_RQ hw) (by decide) rfl (Or.inr ⟨(w28 hw), rfl, rfl⟩) (w10 hw) (t := .long) (by decide) rfl rfl g_q (pc' := 14) rfl ?_
  intro h4 K5 O_n
  replace KE := KE.trans K5 (own_all (Or.inl (by simp)) own_all0)
  replace O_q : Ob Z h4 q "com/example/apportion/apportion/Request" L_RQ [.null, (.long (0 : Int64)), (.long 0), (.long 0), (.long 0), .null, (.int 0)] := O_n
  clear O_n
  refine WP.aloadN d4_14 rfl rfl (pc' := 15) rfl ?_
  refine WP.lload d4_15 rfl (pc' := 17) rfl ?_
  refine WP.putf (i := 2) d4_17 (w29 hw) O_q (lay_RQ hw) (by decide) rfl (Or.inr ⟨(w30 hw), rfl, rfl⟩) (w10 hw) (t := .long) (by decide) rfl rfl g_q (pc' := 20) rfl ?_
  intro h6 K7 O_n
  replace KE := KE.trans K7 (own_all (Or.inl (by simp)) own_all0)
  replace O_q : Ob Z h6 q "com/example/apportion/apportion/Request" L_RQ [.null, (.long (0 : Int64)), (.long (0 : Int64)), (.long 0), (.long 0), .null, (.int 0)] := O_n
  clear O_n
  refine WP.aloadN d4_20 rfl rfl (pc' := 21) rfl ?_
  refine WP.lload d4_21 rfl (pc' := 23) rfl ?_
  refine WP.putf (i := 3) d4_23 (w31 hw) O_q (lay_RQ hw) (by decide) rfl (Or.inr ⟨(w32 hw), rfl, rfl⟩) (w10 hw) (t := .long) (by decide) rfl rfl g_q (pc' := 26) rfl ?_
  intro h8 K9 O_n
  replace KE := KE.trans K9 (own_all (Or.inl (by simp)) own_all0)
  replace O_q : Ob Z h8 q "com/example/apportion/apportion/Request" L_RQ [.null, (.long (0 : Int64)), (.long (0 : Int64)), (.long (1 : Int64)), (.long 0), .null, (.int 0)] := O_n
  clear O_n
  refine WP.aloadN d4_26 rfl rfl (pc' := 27) rfl ?_
  refine WP.lload d4_27 rfl (pc' := 29) rfl ?_
  refine WP.putf (i := 4) d4_29 (w33 hw) O_q (lay_RQ hw) (by decide) rfl (Or.inr ⟨(w34 hw), rfl, rfl⟩) (w10 hw) (t := .long) (by decide) rfl rfl g_q (pc' := 32) rfl ?_
  intro h10 K11 O_n
  replace KE := KE.trans K11 (own_all (Or.inl (by simp)) own_all0)
  replace O_q : Ob Z h10 q "com/example/apportion/apportion/Request" L_RQ [.null, (.long (0 : Int64)), (.long (0 : Int64)), (.long (1 : Int64)), (.long (0 : Int64)), .null, (.int 0)] := O_n
  clear O_n
  refine WP.aloadN d4_32 rfl rfl (pc' := 33) rfl ?_
  refine WP.aload d4_33 rfl rfl (pc' := 35) rfl ?_
  refine WP.putf (i := 5) d4_35 (w35 hw) O_q (lay_RQ hw) (by decide) rfl (Or.inr ⟨(w36 hw), rfl, rfl⟩) (w10 hw) (t := (.object "java/math/BigInteger")) (by decide) rfl rfl g_q (pc' := 38) rfl ?_
  intro h12 K13 O_n
  replace KE := KE.trans K13 (own_all (Or.inl (by simp)) own_all0)
  replace O_q : Ob Z h12 q "com/example/apportion/apportion/Request" L_RQ [.null, (.long (0 : Int64)), (.long (0 : Int64)), (.long (1 : Int64)), (.long (0 : Int64)), .null, (.int 0)] := O_n
  clear O_n
  refine WP.aloadN d4_38 rfl rfl (pc' := 39) rfl ?_
  refine WP.iload d4_39 rfl (pc' := 41) rfl ?_
  refine WP.putf (i := 6) d4_41 (w37 hw) O_q (lay_RQ hw) (by decide) rfl (Or.inr ⟨(w38 hw), rfl, rfl⟩) (w10 hw) (t := .boolean) (by decide) rfl rfl g_q (pc' := 44) rfl ?_
  intro h14 K15 O_n
  replace KE := KE.trans K15 (own_all (Or.inl (by simp)) own_all0)
  replace O_q : Ob Z h14 q "com/example/apportion/apportion/Request" L_RQ [.null, (.long (0 : Int64)), (.long (0 : Int64)), (.long (1 : Int64)), (.long (0 : Int64)), .null, (.int (1 : Int32))] := O_n
  clear O_n
  exact WP.ret0 d4_44 rfl (by decide) (by decide) ⟨rfl, KE, O_q⟩
theorem rq1_met {l : Launch} {Z : State} {a0 : Array Value} (hw : HW Z a0) {n0 : Nat} {h : Heap} (q : Addr) (g_q : n0 ≤ q) (O_q : Ob Z h q "com/example/apportion/apportion/Request" L_RQ [.null, (.long 0), (.long 0), (.long 0), (.long 0), .null, (.int 0)]) : OMet l (⟨"com/example/apportion/apportion/Request", "<init>", "(Ljava/lang/String;JJJJLjava/math/BigInteger;)V"⟩ : MethodName) B3 Z n0 #[(.ref q), .null, (.long (0 : Int64)), (.long (0 : Int64)), (.long (1 : Int64)), (.long (0 : Int64)), .null] h (fun v h' => v = none ∧ Keep h h' [q] ∧ Ob Z h' q "com/example/apportion/apportion/Request" L_RQ [.null, .long 0, .long 0, .long 1, .long 0, .null, .int 1]) := by
  refine OMet.of_wp (ls0 := #[.val (.ref q), .val .null, .val (.long (0 : Int64)), .second, .val (.long (0 : Int64)), .second, .val (.long (1 : Int64)), .second, .val (.long (0 : Int64)), .second, .val .null]) pl3 rfl rfl (fun m => own_entry 0 rfl rfl) ?_
  have k32_1 : (1 : Int32).toInt = 1 := by decide
  have k64_0 : (0 : Int64).toInt = 0 := by decide
  have k64_1 : (1 : Int64).toInt = 1 := by decide
  have k64_9223372036854775807 : (9223372036854775807 : Int64).toInt = 9223372036854775807 := by decide
  refine WP.aloadN d3_0 rfl rfl (pc' := 1) rfl ?_
  refine WP.aloadN d3_1 rfl rfl (pc' := 2) rfl ?_
  refine WP.lloadN d3_2 rfl (pc' := 3) rfl ?_
  refine WP.lload d3_3 rfl (pc' := 5) rfl ?_
  refine WP.lload d3_5 rfl (pc' := 7) rfl ?_
  refine WP.lload d3_7 rfl (pc' := 9) rfl ?_
  refine WP.aload d3_9 rfl rfl (pc' := 11) rfl ?_
  refine WP.lload d3_11 rfl (pc' := 13) rfl ?_
  refine WP.ldc2J d3_13 (w15 hw) (pc' := 16) rfl ?_
  refine WP.lcmpEq d3_16 rfl d3_17 (tgt := 24) (by decide) (pc' := 20) rfl (fun c16 => ?_) (fun c16 => ?_)
  · exfalso; omega
  refine WP.iconst d3_20 (z := (1 : Int32)) rfl (pc' := 21) rfl ?_
  refine WP.goto d3_21 (pc' := 25) (by decide) ?_
  refine WP.callI (a := q) (y := (⟨"com/example/apportion/apportion/Request", "<init>", "(Ljava/lang/String;JJJJLjava/math/BigInteger;Z)V"⟩ : MethodName)) (By := B4) (as := [.null, (.long (0 : Int64)), (.long (0 : Int64)), (.long (1 : Int64)), (.long (0 : Int64)), .null, (.int (1 : Int32))]) (rest := []) d3_25 (w16 hw) (w17 hw) (w11 hw) (w18 hw) rfl rfl (by decide) (rq2_met hw q g_q O_q) pd_1 rfl rfl rfl (by decide) (Nat.le_of_ble_eq_true rfl) (by decide) (by decide) (pc' := 28) rfl ?_
  rintro _ h1 ⟨rfl, Kc, O_n⟩
  show WP _ _ _ _ _ _ _ _ _ _ []
  exact WP.ret0 d3_28 rfl (by decide) (by decide) ⟨rfl, Kc, O_n⟩
theorem get_id {l : Launch} {Z : State} {a0 : Array Value} (hw : HW Z a0) {n0 : Nat} {h : Heap} (q : Addr) (O_q : Ob Z h q "com/example/apportion/apportion/Request" L_RQ [.null, .long 0, .long 0, .long 1, .long 0, .null, .int 1]) : OMet l (⟨"com/example/apportion/apportion/Request", "id", "()Ljava/lang/String;"⟩ : MethodName) B7 Z n0 #[(.ref q)] h (fun v h' => v = some .null ∧ h = h') := by
  refine OMet.of_wp (ls0 := #[.val (.ref q)]) pl7 rfl rfl (fun m => own_entry 0 rfl rfl) ?_
  refine WP.aloadN d7_0 rfl rfl (pc' := 1) rfl ?_
  refine WP.getf (i := 0) (v := .null) d7_1 (w25 hw) O_q rfl rfl (pc' := 4) rfl ?_
  exact WP.retA d7_4 rfl rfl rfl (by decide) (by decide) ⟨rfl, rfl⟩
theorem get_arrival {l : Launch} {Z : State} {a0 : Array Value} (hw : HW Z a0) {n0 : Nat} {h : Heap} (q : Addr) (O_q : Ob Z h q "com/example/apportion/apportion/Request" L_RQ [.null, .long 0, .long 0, .long 1, .long 0, .null, .int 1]) : OMet l (⟨"com/example/apportion/apportion/Request", "arrival", "()J"⟩ : MethodName) B8 Z n0 #[(.ref q)] h (fun v h' => v = some (.long (0 : Int64)) ∧ h = h') := by
  refine OMet.of_wp (ls0 := #[.val (.ref q)]) pl8 rfl rfl (fun m => own_entry 0 rfl rfl) ?_
  have k64_0 : (0 : Int64).toInt = 0 := by decide
  refine WP.aloadN d8_0 rfl rfl (pc' := 1) rfl ?_
  refine WP.getf (i := 1) (v := (.long (0 : Int64))) d8_1 (w27 hw) O_q rfl rfl (pc' := 4) rfl ?_
  exact WP.retJ d8_4 rfl (by decide) (by decide) ⟨rfl, rfl⟩
theorem get_ready {l : Launch} {Z : State} {a0 : Array Value} (hw : HW Z a0) {n0 : Nat} {h : Heap} (q : Addr) (O_q : Ob Z h q "com/example/apportion/apportion/Request" L_RQ [.null, .long 0, .long 0, .long 1, .long 0, .null, .int 1]) : OMet l (⟨"com/example/apportion/apportion/Request", "ready", "()J"⟩ : MethodName) B9 Z n0 #[(.ref q)] h (fun v h' => v = some (.long (0 : Int64)) ∧ h = h') := by
  refine OMet.of_wp (ls0 := #[.val (.ref q)]) pl9 rfl rfl (fun m => own_entry 0 rfl rfl) ?_
  have k64_0 : (0 : Int64).toInt = 0 := by decide
  refine WP.aloadN d9_0 rfl rfl (pc' := 1) rfl ?_
  refine WP.getf (i := 2) (v := (.long (0 : Int64))) d9_1 (w29 hw) O_q rfl rfl (pc' := 4) rfl ?_
  exact WP.retJ d9_4 rfl (by decide) (by decide) ⟨rfl, rfl⟩
theorem get_length {l : Launch} {Z : State} {a0 : Array Value} (hw : HW Z a0) {n0 : Nat} {h : Heap} (q : Addr) (O_q : Ob Z h q "com/example/apportion/apportion/Request" L_RQ [.null, .long 0, .long 0, .long 1, .long 0, .null, .int 1]) : OMet l (⟨"com/example/apportion/apportion/Request", "length", "()J"⟩ : MethodName) B10 Z n0 #[(.ref q)] h (fun v h' => v = some (.long (1 : Int64)) ∧ h = h') := by
  refine OMet.of_wp (ls0 := #[.val (.ref q)]) pl10 rfl rfl (fun m => own_entry 0 rfl rfl) ?_
  have k64_1 : (1 : Int64).toInt = 1 := by decide
  refine WP.aloadN d10_0 rfl rfl (pc' := 1) rfl ?_
  refine WP.getf (i := 3) (v := (.long (1 : Int64))) d10_1 (w31 hw) O_q rfl rfl (pc' := 4) rfl ?_
  exact WP.retJ d10_4 rfl (by decide) (by decide) ⟨rfl, rfl⟩
theorem get_deadline {l : Launch} {Z : State} {a0 : Array Value} (hw : HW Z a0) {n0 : Nat} {h : Heap} (q : Addr) (O_q : Ob Z h q "com/example/apportion/apportion/Request" L_RQ [.null, .long 0, .long 0, .long 1, .long 0, .null, .int 1]) : OMet l (⟨"com/example/apportion/apportion/Request", "deadline", "()J"⟩ : MethodName) B11 Z n0 #[(.ref q)] h (fun v h' => v = some (.long (0 : Int64)) ∧ h = h') := by
  refine OMet.of_wp (ls0 := #[.val (.ref q)]) pl11 rfl rfl (fun m => own_entry 0 rfl rfl) ?_
  have k64_0 : (0 : Int64).toInt = 0 := by decide
  refine WP.aloadN d11_0 rfl rfl (pc' := 1) rfl ?_
  refine WP.getf (i := 4) (v := (.long (0 : Int64))) d11_1 (w33 hw) O_q rfl rfl (pc' := 4) rfl ?_
  exact WP.retJ d11_4 rfl (by decide) (by decide) ⟨rfl, rfl⟩
theorem get_hasDeadline {l : Launch} {Z : State} {a0 : Array Value} (hw : HW Z a0) {n0 : Nat} {h : Heap} (q : Addr) (O_q : Ob Z h q "com/example/apportion/apportion/Request" L_RQ [.null, .long 0, .long 0, .long 1, .long 0, .null, .int 1]) : OMet l (⟨"com/example/apportion/apportion/Request", "hasDeadline", "()Z"⟩ : MethodName) B12 Z n0 #[(.ref q)] h (fun v h' => v = some (.int (1 : Int32)) ∧ h = h') := by
  refine OMet.of_wp (ls0 := #[.val (.ref q)]) pl12 rfl rfl (fun m => own_entry 0 rfl rfl) ?_
  have k32_1 : (1 : Int32).toInt = 1 := by decide
  refine WP.aloadN d12_0 rfl rfl (pc' := 1) rfl ?_
  refine WP.getf (i := 6) (v := (.int (1 : Int32))) d12_1 (w37 hw) O_q rfl rfl (pc' := 4) rfl ?_
  exact WP.retN d12_4 (t := .boolean) rfl (by simp) (by decide) (by decide) ⟨own_q1, rfl⟩
theorem gji_met {l : Launch} {Z : State} {a0 : Array Value} (hw : HW Z a0) {n0 : Nat} {h : Heap} (j q : Addr) (n : Int64) (g_j : n0 ≤ j) (O_j : Ob Z h j "com/example/apportion/apportion/GridJob" L_GJ [(.int 0), (.long 0), .null, (.long 0), (.long 0), (.long 0), (.long 0), (.int 0), (.int 0), (.long 0), (.long 0)]) (O_q : Ob Z h q "com/example/apportion/apportion/Request" L_RQ [.null, .long 0, .long 0, .long 1, .long 0, .null, .int 1]) (n_jq : j ≠ q) : OMet l (⟨"com/example/apportion/apportion/GridJob", "<init>", "(JLcom/example/apportion/apportion/Request;I)V"⟩ : MethodName) B6 Z n0 #[(.ref j), (.long n), (.ref q), (.int (1 : Int32))] h (fun v h' => v = none ∧ Keep h h' [j] ∧ Ob Z h' j "com/example/apportion/apportion/GridJob" L_GJ (jv 0 n)) := by
  refine OMet.of_wp (ls0 := #[.val (.ref j), .val (.long n), .second, .val (.ref q), .val (.int (1 : Int32))]) pl6 rfl rfl (fun m => own_entry 0 rfl rfl) ?_
  have k32_m1 : (-1 : Int32).toInt = -1 := by decide
  have k32_1 : (1 : Int32).toInt = 1 := by decide
  have k64_0 : (0 : Int64).toInt = 0 := by decide
  have k64_1 : (1 : Int64).toInt = 1 := by decide
  have KE : Keep h h [j] := Keep.refl _ _
  refine WP.aloadN d6_0 rfl rfl (pc' := 1) rfl ?_
  refine WP.initO (a := j) d6_1 (w45 hw) (w7 hw) (w8 hw) rfl (by decide) (Nat.le_of_ble_eq_true rfl) (pc' := 4) rfl ?_
  refine WP.aloadN d6_4 rfl rfl (pc' := 5) rfl ?_
  refine WP.iconst d6_5 (z := (-1 : Int32)) rfl (pc' := 6) rfl ?_
  refine WP.putf (i := 0) d6_6 (w46 hw) O_j (lay_GJ hw) (by decide) rfl (Or.inl (w47 hw)) (w40 hw) (t := .int) (by decide) rfl rfl g_j (pc' := 9) rfl ?_
  intro h1 K2 O_n
  replace KE := KE.trans K2 (own_all (Or.inl (by simp)) own_all0)
  replace O_q := O_q.keep K2 (own_cons (by first | assumption | exact Ne.symm (by assumption) | exact Nat.ne_of_lt (by assumption) | exact Nat.ne_of_gt (by assumption)) own_nil)
  replace O_j : Ob Z h1 j "com/example/apportion/apportion/GridJob" L_GJ [(.int (-1 : Int32)), (.long 0), .null, (.long 0), (.long 0), (.long 0), (.long 0), (.int 0), (.int 0), (.long 0), (.long 0)] := O_n
  clear O_n
  refine WP.aloadN d6_9 rfl rfl (pc' := 10) rfl ?_
  refine WP.lloadN d6_10 rfl (pc' := 11) rfl ?_
  refine WP.putf (i := 1) d6_11 (w48 hw) O_j (lay_GJ hw) (by decide) rfl (Or.inr ⟨(w49 hw), rfl, rfl⟩) (w40 hw) (t := .long) (by decide) rfl rfl g_j (pc' := 14) rfl ?_
  intro h3 K4 O_n
  replace KE := KE.trans K4 (own_all (Or.inl (by simp)) own_all0)
  replace O_q := O_q.keep K4 (own_cons (by first | assumption | exact Ne.symm (by assumption) | exact Nat.ne_of_lt (by assumption) | exact Nat.ne_of_gt (by assumption)) own_nil)
  replace O_j : Ob Z h3 j "com/example/apportion/apportion/GridJob" L_GJ [(.int (-1 : Int32)), (.long n), .null, (.long 0), (.long 0), (.long 0), (.long 0), (.int 0), (.int 0), (.long 0), (.long 0)] := O_n
  clear O_n
  refine WP.aloadN d6_14 rfl rfl (pc' := 15) rfl ?_
  refine WP.aloadN d6_15 rfl rfl (pc' := 16) rfl ?_
  refine WP.callV (a := q) (z := (⟨"com/example/apportion/apportion/Request", "id", "()Ljava/lang/String;"⟩ : MethodName)) (Cl := "com/example/apportion/apportion/Request") (y := (⟨"com/example/apportion/apportion/Request", "id", "()Ljava/lang/String;"⟩ : MethodName)) (By := B7) (as := []) (rest := [(.ref j)]) d6_16 (w50 hw) (w51 hw) (w53 hw) (w52 hw) (w11 hw) (w54 hw) rfl rfl (by decide) O_q.1 (get_id hw q O_q) pd_2 rfl rfl rfl (by decide) (Nat.le_of_ble_eq_true rfl) (by decide) (by decide) (pc' := 19) rfl ?_
  rintro _ _ ⟨rfl, rfl⟩
  show WP _ _ _ _ _ _ _ _ _ _ [.null, (.ref j)]
  refine WP.putf (i := 2) d6_19 (w55 hw) O_j (lay_GJ hw) (by decide) rfl (Or.inr ⟨(w56 hw), rfl, rfl⟩) (w40 hw) (t := (.object "java/lang/String")) (by decide) rfl rfl g_j (pc' := 22) rfl ?_
  intro h6 K7 O_n
  replace KE := KE.trans K7 (own_all (Or.inl (by simp)) own_all0)
  replace O_q := O_q.keep K7 (own_cons (by first | assumption | exact Ne.symm (by assumption) | exact Nat.ne_of_lt (by assumption) | exact Nat.ne_of_gt (by assumption)) own_nil)
  replace O_j : Ob Z h6 j "com/example/apportion/apportion/GridJob" L_GJ [(.int (-1 : Int32)), (.long n), .null, (.long 0), (.long 0), (.long 0), (.long 0), (.int 0), (.int 0), (.long 0), (.long 0)] := O_n
  clear O_n
  refine WP.aloadN d6_22 rfl rfl (pc' := 23) rfl ?_
  refine WP.aloadN d6_23 rfl rfl (pc' := 24) rfl ?_
  refine WP.callV (a := q) (z := (⟨"com/example/apportion/apportion/Request", "arrival", "()J"⟩ : MethodName)) (Cl := "com/example/apportion/apportion/Request") (y := (⟨"com/example/apportion/apportion/Request", "arrival", "()J"⟩ : MethodName)) (By := B8) (as := []) (rest := [(.ref j)]) d6_24 (w57 hw) (w58 hw) (w60 hw) (w59 hw) (w11 hw) (w61 hw) rfl rfl (by decide) O_q.1 (get_arrival hw q O_q) pd_3 rfl rfl rfl (by decide) (Nat.le_of_ble_eq_true rfl) (by decide) (by decide) (pc' := 27) rfl ?_
  rintro _ _ ⟨rfl, rfl⟩
  show WP _ _ _ _ _ _ _ _ _ _ [(.long (0 : Int64)), (.ref j)]
  refine WP.putf (i := 3) d6_27 (w62 hw) O_j (lay_GJ hw) (by decide) rfl (Or.inr ⟨(w63 hw), rfl, rfl⟩) (w40 hw) (t := .long) (by decide) rfl rfl g_j (pc' := 30) rfl ?_
  intro h9 K10 O_n
  replace KE := KE.trans K10 (own_all (Or.inl (by simp)) own_all0)
  replace O_q := O_q.keep K10 (own_cons (by first | assumption | exact Ne.symm (by assumption) | exact Nat.ne_of_lt (by assumption) | exact Nat.ne_of_gt (by assumption)) own_nil)
  replace O_j : Ob Z h9 j "com/example/apportion/apportion/GridJob" L_GJ [(.int (-1 : Int32)), (.long n), .null, (.long (0 : Int64)), (.long 0), (.long 0), (.long 0), (.int 0), (.int 0), (.long 0), (.long 0)] := O_n
  clear O_n
  refine WP.aloadN d6_30 rfl rfl (pc' := 31) rfl ?_
  refine WP.aloadN d6_31 rfl rfl (pc' := 32) rfl ?_
  refine WP.callV (a := q) (z := (⟨"com/example/apportion/apportion/Request", "ready", "()J"⟩ : MethodName)) (Cl := "com/example/apportion/apportion/Request") (y := (⟨"com/example/apportion/apportion/Request", "ready", "()J"⟩ : MethodName)) (By := B9) (as := []) (rest := [(.ref j)]) d6_32 (w64 hw) (w65 hw) (w67 hw) (w66 hw) (w11 hw) (w68 hw) rfl rfl (by decide) O_q.1 (get_ready hw q O_q) pd_3 rfl rfl rfl (by decide) (Nat.le_of_ble_eq_true rfl) (by decide) (by decide) (pc' := 35) rfl ?_
  rintro _ _ ⟨rfl, rfl⟩
  show WP _ _ _ _ _ _ _ _ _ _ [(.long (0 : Int64)), (.ref j)]
  refine WP.putf (i := 4) d6_35 (w69 hw) O_j (lay_GJ hw) (by decide) rfl (Or.inr ⟨(w70 hw), rfl, rfl⟩) (w40 hw) (t := .long) (by decide) rfl rfl g_j (pc' := 38) rfl ?_
  intro h12 K13 O_n
  replace KE := KE.trans K13 (own_all (Or.inl (by simp)) own_all0)
  replace O_q := O_q.keep K13 (own_cons (by first | assumption | exact Ne.symm (by assumption) | exact Nat.ne_of_lt (by assumption) | exact Nat.ne_of_gt (by assumption)) own_nil)
  replace O_j : Ob Z h12 j "com/example/apportion/apportion/GridJob" L_GJ [(.int (-1 : Int32)), (.long n), .null, (.long (0 : Int64)), (.long (0 : Int64)), (.long 0), (.long 0), (.int 0), (.int 0), (.long 0), (.long 0)] := O_n
  clear O_n
  refine WP.aloadN d6_38 rfl rfl (pc' := 39) rfl ?_
  refine WP.aloadN d6_39 rfl rfl (pc' := 40) rfl ?_
  refine WP.callV (a := q) (z := (⟨"com/example/apportion/apportion/Request", "length", "()J"⟩ : MethodName)) (Cl := "com/example/apportion/apportion/Request") (y := (⟨"com/example/apportion/apportion/Request", "length", "()J"⟩ : MethodName)) (By := B10) (as := []) (rest := [(.ref j)]) d6_40 (w71 hw) (w72 hw) (w74 hw) (w73 hw) (w11 hw) (w75 hw) rfl rfl (by decide) O_q.1 (get_length hw q O_q) pd_3 rfl rfl rfl (by decide) (Nat.le_of_ble_eq_true rfl) (by decide) (by decide) (pc' := 43) rfl ?_
  rintro _ _ ⟨rfl, rfl⟩
  show WP _ _ _ _ _ _ _ _ _ _ [(.long (1 : Int64)), (.ref j)]
  refine WP.putf (i := 5) d6_43 (w76 hw) O_j (lay_GJ hw) (by decide) rfl (Or.inr ⟨(w77 hw), rfl, rfl⟩) (w40 hw) (t := .long) (by decide) rfl rfl g_j (pc' := 46) rfl ?_
  intro h15 K16 O_n
  replace KE := KE.trans K16 (own_all (Or.inl (by simp)) own_all0)
  replace O_q := O_q.keep K16 (own_cons (by first | assumption | exact Ne.symm (by assumption) | exact Nat.ne_of_lt (by assumption) | exact Nat.ne_of_gt (by assumption)) own_nil)
  replace O_j : Ob Z h15 j "com/example/apportion/apportion/GridJob" L_GJ [(.int (-1 : Int32)), (.long n), .null, (.long (0 : Int64)), (.long (0 : Int64)), (.long (1 : Int64)), (.long 0), (.int 0), (.int 0), (.long 0), (.long 0)] := O_n
  clear O_n
  refine WP.aloadN d6_46 rfl rfl (pc' := 47) rfl ?_
  refine WP.aloadN d6_47 rfl rfl (pc' := 48) rfl ?_
  refine WP.callV (a := q) (z := (⟨"com/example/apportion/apportion/Request", "deadline", "()J"⟩ : MethodName)) (Cl := "com/example/apportion/apportion/Request") (y := (⟨"com/example/apportion/apportion/Request", "deadline", "()J"⟩ : MethodName)) (By := B11) (as := []) (rest := [(.ref j)]) d6_48 (w78 hw) (w79 hw) (w81 hw) (w80 hw) (w11 hw) (w82 hw) rfl rfl (by decide) O_q.1 (get_deadline hw q O_q) pd_3 rfl rfl rfl (by decide) (Nat.le_of_ble_eq_true rfl) (by decide) (by decide) (pc' := 51) rfl ?_
  rintro _ _ ⟨rfl, rfl⟩
  show WP _ _ _ _ _ _ _ _ _ _ [(.long (0 : Int64)), (.ref j)]
  refine WP.putf (i := 6) d6_51 (w83 hw) O_j (lay_GJ hw) (by decide) rfl (Or.inr ⟨(w84 hw), rfl, rfl⟩) (w40 hw) (t := .long) (by decide) rfl rfl g_j (pc' := 54) rfl ?_
  intro h18 K19 O_n
  replace KE := KE.trans K19 (own_all (Or.inl (by simp)) own_all0)
  replace O_q := O_q.keep K19 (own_cons (by first | assumption | exact Ne.symm (by assumption) | exact Nat.ne_of_lt (by assumption) | exact Nat.ne_of_gt (by assumption)) own_nil)
  replace O_j : Ob Z h18 j "com/example/apportion/apportion/GridJob" L_GJ [(.int (-1 : Int32)), (.long n), .null, (.long (0 : Int64)), (.long (0 : Int64)), (.long (1 : Int64)), (.long (0 : Int64)), (.int 0), (.int 0), (.long 0), (.long 0)] := O_n
  clear O_n
  refine WP.aloadN d6_54 rfl rfl (pc' := 55) rfl ?_
  refine WP.aloadN d6_55 rfl rfl (pc' := 56) rfl ?_
  refine WP.callV (a := q) (z := (⟨"com/example/apportion/apportion/Request", "hasDeadline", "()Z"⟩ : MethodName)) (Cl := "com/example/apportion/apportion/Request") (y := (⟨"com/example/apportion/apportion/Request", "hasDeadline", "()Z"⟩ : MethodName)) (By := B12) (as := []) (rest := [(.ref j)]) d6_56 (w85 hw) (w86 hw) (w88 hw) (w87 hw) (w11 hw) (w89 hw) rfl rfl (by decide) O_q.1 (get_hasDeadline hw q O_q) pd_4 rfl rfl rfl (by decide) (Nat.le_of_ble_eq_true rfl) (by decide) (by decide) (pc' := 59) rfl ?_
  rintro _ _ ⟨rfl, rfl⟩
  show WP _ _ _ _ _ _ _ _ _ _ [(.int (1 : Int32)), (.ref j)]
  refine WP.putf (i := 7) d6_59 (w90 hw) O_j (lay_GJ hw) (by decide) rfl (Or.inr ⟨(w91 hw), rfl, rfl⟩) (w40 hw) (t := .boolean) (by decide) rfl rfl g_j (pc' := 62) rfl ?_
  intro h21 K22 O_n
  replace KE := KE.trans K22 (own_all (Or.inl (by simp)) own_all0)
  replace O_q := O_q.keep K22 (own_cons (by first | assumption | exact Ne.symm (by assumption) | exact Nat.ne_of_lt (by assumption) | exact Nat.ne_of_gt (by assumption)) own_nil)
  replace O_j : Ob Z h21 j "com/example/apportion/apportion/GridJob" L_GJ [(.int (-1 : Int32)), (.long n), .null, (.long (0 : Int64)), (.long (0 : Int64)), (.long (1 : Int64)), (.long (0 : Int64)), (.int (1 : Int32)), (.int 0), (.long 0), (.long 0)] := O_n
  clear O_n
  refine WP.aloadN d6_62 rfl rfl (pc' := 63) rfl ?_
  refine WP.iload d6_63 rfl (pc' := 65) rfl ?_
  refine WP.putf (i := 8) d6_65 (w92 hw) O_j (lay_GJ hw) (by decide) rfl (Or.inr ⟨(w93 hw), rfl, rfl⟩) (w40 hw) (t := .int) (by decide) rfl rfl g_j (pc' := 68) rfl ?_
  intro h23 K24 O_n
  replace KE := KE.trans K24 (own_all (Or.inl (by simp)) own_all0)
  replace O_q := O_q.keep K24 (own_cons (by first | assumption | exact Ne.symm (by assumption) | exact Nat.ne_of_lt (by assumption) | exact Nat.ne_of_gt (by assumption)) own_nil)
  replace O_j : Ob Z h23 j "com/example/apportion/apportion/GridJob" L_GJ [(.int (-1 : Int32)), (.long n), .null, (.long (0 : Int64)), (.long (0 : Int64)), (.long (1 : Int64)), (.long (0 : Int64)), (.int (1 : Int32)), (.int (1 : Int32)), (.long 0), (.long 0)] := O_n
  clear O_n
  exact WP.ret0 d6_68 rfl (by decide) (by decide) ⟨rfl, KE, O_j⟩
theorem tsi_met {l : Launch} {Z : State} {a0 : Array Value} (hw : HW Z a0) {n0 : Nat} {h : Heap} (q : Addr) : OMet l (⟨"com/example/apportion/apportion/JobsByStart", "<init>", "()V"⟩ : MethodName) B1 Z n0 #[(.ref q)] h (fun v h' => v = none ∧ h = h') := by
  refine OMet.of_wp (ls0 := #[.val (.ref q)]) pl1 rfl rfl (fun m => own_entry 0 rfl rfl) ?_
  refine WP.aloadN d1_0 rfl rfl (pc' := 1) rfl ?_
  refine WP.initO (a := q) d1_1 (w6 hw) (w7 hw) (w8 hw) rfl (by decide) (Nat.le_of_ble_eq_true rfl) (pc' := 4) rfl ?_
  exact WP.ret0 d1_4 rfl (by decide) (by decide) ⟨rfl, rfl⟩
theorem mix_met {l : Launch} {Z : State} {a0 : Array Value} (hw : HW Z a0) {n0 : Nat} {h : Heap} (x : Int64) : OMet l (⟨"com/example/apportion/apportion/SplitMix64", "mix", "(J)J"⟩ : MethodName) B15 Z n0 #[(.long x)] h (fun v h' => h = h' ∧ ∃ r : Int64, v = some (.long r)) := by
  refine OMet.of_wp (ls0 := #[.val (.long x), .second]) pl15 rfl rfl (fun m => own_entry 0 rfl rfl) ?_
  have k32_27 : (27 : Int32).toInt = 27 := by decide
  have k32_30 : (30 : Int32).toInt = 30 := by decide
  have k32_31 : (31 : Int32).toInt = 31 := by decide
  have k64_m7723592293110705685 : (-7723592293110705685 : Int64).toInt = -7723592293110705685 := by decide
  have k64_m4658895280553007687 : (-4658895280553007687 : Int64).toInt = -4658895280553007687 := by decide
  refine WP.lloadN d15_0 rfl (pc' := 1) rfl ?_
  refine WP.lloadN d15_1 rfl (pc' := 2) rfl ?_
  refine WP.bipush d15_2 (z := (30 : Int32)) rfl (pc' := 4) rfl ?_
  refine WP.lushr d15_4 (pc' := 5) rfl ?_
  refine WP.lxor d15_5 (pc' := 6) rfl ?_
  refine WP.ldc2J d15_6 (w118 hw) (pc' := 9) rfl ?_
  refine WP.lmul d15_9 (pc' := 10) rfl ?_
  obtain ⟨v_10, e_v_10⟩ : ∃ z, z = ((x ^^^ (ushrL x (30 : Int32))) * (-4658895280553007687 : Int64)) := ⟨_, rfl⟩
  rw [← e_v_10]
  refine WP.lstoreN d15_10 (pc' := 11) rfl (ls' := #[.val (.long v_10), .second]) rfl ?_
  refine WP.lloadN d15_11 rfl (pc' := 12) rfl ?_
  refine WP.lloadN d15_12 rfl (pc' := 13) rfl ?_
  refine WP.bipush d15_13 (z := (27 : Int32)) rfl (pc' := 15) rfl ?_
  refine WP.lushr d15_15 (pc' := 16) rfl ?_
  refine WP.lxor d15_16 (pc' := 17) rfl ?_
  refine WP.ldc2J d15_17 (w119 hw) (pc' := 20) rfl ?_
  refine WP.lmul d15_20 (pc' := 21) rfl ?_
  obtain ⟨v_21, e_v_21⟩ : ∃ z, z = ((v_10 ^^^ (ushrL v_10 (27 : Int32))) * (-7723592293110705685 : Int64)) := ⟨_, rfl⟩
  rw [← e_v_21]
  refine WP.lstoreN d15_21 (pc' := 22) rfl (ls' := #[.val (.long v_21), .second]) rfl ?_
  refine WP.lloadN d15_22 rfl (pc' := 23) rfl ?_
  refine WP.lloadN d15_23 rfl (pc' := 24) rfl ?_
  refine WP.bipush d15_24 (z := (31 : Int32)) rfl (pc' := 26) rfl ?_
  refine WP.lushr d15_26 (pc' := 27) rfl ?_
  refine WP.lxor d15_27 (pc' := 28) rfl ?_
  exact WP.retJ d15_28 rfl (by decide) (by decide) ⟨rfl, _, rfl⟩
theorem mxJ_met {l : Launch} {Z : State} {a0 : Array Value} (hw : HW Z a0) {n0 : Nat} {h : Heap} (x y : Int64) : OMet l (⟨"java/lang/Math", "max", "(JJ)J"⟩ : MethodName) B20 Z n0 #[(.long x), (.long y)] h (fun v h' => h = h' ∧ ∃ r : Int64, v = some (.long r)) := by
  refine OMet.of_wp (ls0 := #[.val (.long x), .second, .val (.long y), .second]) pl20 rfl rfl (fun m => own_entry 0 rfl rfl) ?_
  refine WP.lloadN d20_0 rfl (pc' := 1) rfl ?_
  refine WP.lloadN d20_1 rfl (pc' := 2) rfl ?_
  refine WP.lcmpLt d20_2 rfl d20_3 (tgt := 10) (by decide) (pc' := 6) rfl (fun c2 => ?_) (fun c2 => ?_)
  ·
    refine WP.lloadN d20_10 rfl (pc' := 11) rfl ?_
    exact WP.retJ d20_11 rfl (by decide) (by decide) ⟨rfl, _, rfl⟩
  refine WP.lloadN d20_6 rfl (pc' := 7) rfl ?_
  refine WP.goto d20_7 (pc' := 11) (by decide) ?_
  exact WP.retJ d20_11 rfl (by decide) (by decide) ⟨rfl, _, rfl⟩
theorem dlt_met {l : Launch} {Z : State} {a0 : Array Value} (hw : HW Z a0) {n0 : Nat} {h : Heap} (x y : Addr) (s1 n1 s2 n2 : Int64) (O_x : Ob Z h x "com/example/apportion/apportion/GridJob" L_GJ (jv s1 n1)) (O_y : Ob Z h y "com/example/apportion/apportion/GridJob" L_GJ (jv s2 n2)) : OMet l (⟨"com/example/apportion/apportion/GridJob", "deadlineLaterThan", "(Lcom/example/apportion/apportion/GridJob;)Z"⟩ : MethodName) B19 Z n0 #[(.ref x), (.ref y)] h (fun v h' => v = some (.int 0) ∧ h = h') := by
  refine OMet.of_wp (ls0 := #[.val (.ref x), .val (.ref y)]) pl19 rfl rfl (fun m => own_entry 0 rfl rfl) ?_
  have k32_0 : (0 : Int32).toInt = 0 := by decide
  have k32_1 : (1 : Int32).toInt = 1 := by decide
  have k64_0 : (0 : Int64).toInt = 0 := by decide
  refine WP.aloadN d19_0 rfl rfl (pc' := 1) rfl ?_
  refine WP.getf (i := 7) (v := (.int (1 : Int32))) d19_1 (w90 hw) O_y rfl rfl (pc' := 4) rfl ?_
  refine WP.ifEq d19_4 (tgt := 30) (by decide) (pc' := 7) rfl (fun c4 => ?_) (fun c4 => ?_)
  · exfalso; omega
  refine WP.aloadN d19_7 rfl rfl (pc' := 8) rfl ?_
  refine WP.getf (i := 7) (v := (.int (1 : Int32))) d19_8 (w90 hw) O_x rfl rfl (pc' := 11) rfl ?_
  refine WP.ifEq d19_11 (tgt := 26) (by decide) (pc' := 14) rfl (fun c11 => ?_) (fun c11 => ?_)
  · exfalso; omega
  refine WP.aloadN d19_14 rfl rfl (pc' := 15) rfl ?_
  refine WP.getf (i := 6) (v := (.long (0 : Int64))) d19_15 (w83 hw) O_x rfl rfl (pc' := 18) rfl ?_
  refine WP.aloadN d19_18 rfl rfl (pc' := 19) rfl ?_
  refine WP.getf (i := 6) (v := (.long (0 : Int64))) d19_19 (w83 hw) O_y rfl rfl (pc' := 22) rfl ?_
  refine WP.lcmpLe d19_22 rfl d19_23 (tgt := 30) (by decide) (pc' := 26) rfl (fun c22 => ?_) (fun c22 => ?_)
  ·
    refine WP.iconst d19_30 (z := (0 : Int32)) rfl (pc' := 31) rfl ?_
    exact WP.retN d19_31 (t := .boolean) rfl (by simp) (by decide) (by decide) ⟨own_q0, rfl⟩
  exfalso; omega
theorem pre_met {l : Launch} {Z : State} {a0 : Array Value} (hw : HW Z a0) {n0 : Nat} {h : Heap} (x y : Addr) (s1 n1 s2 n2 : Int64) (O_x : Ob Z h x "com/example/apportion/apportion/GridJob" L_GJ (jv s1 n1)) (O_y : Ob Z h y "com/example/apportion/apportion/GridJob" L_GJ (jv s2 n2)) : OMet l (⟨"com/example/apportion/apportion/JobsByStart", "precedes", "(Lcom/example/apportion/apportion/GridJob;Lcom/example/apportion/apportion/GridJob;)Z"⟩ : MethodName) B17 Z n0 #[(.ref x), (.ref y)] h (fun v h' => h = h' ∧ ∃ r : Int32, v = some (.int r) ∧ ((r.toInt = 1 ∧ (s1.toInt < s2.toInt ∨ (s1.toInt = s2.toInt ∧ n1.toInt < n2.toInt))) ∨ (r.toInt = 0 ∧ ¬ (s1.toInt < s2.toInt ∨ (s1.toInt = s2.toInt ∧ n1.toInt < n2.toInt))))) := by
  refine OMet.of_wp (ls0 := #[.val (.ref x), .val (.ref y)]) pl17 rfl rfl (fun m => own_entry 0 rfl rfl) ?_
  have k32_0 : (0 : Int32).toInt = 0 := by decide
  have k32_1 : (1 : Int32).toInt = 1 := by decide
  refine WP.aloadN d17_0 rfl rfl (pc' := 1) rfl ?_
  refine WP.getf (i := 9) (v := (.long s1)) d17_1 (w135 hw) O_x rfl rfl (pc' := 4) rfl ?_
  refine WP.aloadN d17_4 rfl rfl (pc' := 5) rfl ?_
  refine WP.getf (i := 9) (v := (.long s2)) d17_5 (w135 hw) O_y rfl rfl (pc' := 8) rfl ?_
  refine WP.lcmpLt d17_8 rfl d17_9 (tgt := 36) (by decide) (pc' := 12) rfl (fun c8 => ?_) (fun c8 => ?_)
  ·
    refine WP.iconst d17_36 (z := (1 : Int32)) rfl (pc' := 37) rfl ?_
    refine WP.goto d17_37 (pc' := 41) (by decide) ?_
    exact WP.retN d17_41 (t := .boolean) rfl (by simp) (by decide) (by decide) ⟨rfl, 1, own_q1, Or.inl ⟨by decide, by omega⟩⟩
  refine WP.aloadN d17_12 rfl rfl (pc' := 13) rfl ?_
  refine WP.getf (i := 9) (v := (.long s1)) d17_13 (w135 hw) O_x rfl rfl (pc' := 16) rfl ?_
  refine WP.aloadN d17_16 rfl rfl (pc' := 17) rfl ?_
  refine WP.getf (i := 9) (v := (.long s2)) d17_17 (w135 hw) O_y rfl rfl (pc' := 20) rfl ?_
  refine WP.lcmpNe d17_20 rfl d17_21 (tgt := 40) (by decide) (pc' := 24) rfl (fun c20 => ?_) (fun c20 => ?_)
  ·
    refine WP.iconst d17_40 (z := (0 : Int32)) rfl (pc' := 41) rfl ?_
    exact WP.retN d17_41 (t := .boolean) rfl (by simp) (by decide) (by decide) ⟨rfl, 0, own_q0, Or.inr ⟨by decide, by omega⟩⟩
  refine WP.aloadN d17_24 rfl rfl (pc' := 25) rfl ?_
  refine WP.getf (i := 1) (v := (.long n1)) d17_25 (w165 hw) O_x rfl rfl (pc' := 28) rfl ?_
  refine WP.aloadN d17_28 rfl rfl (pc' := 29) rfl ?_
  refine WP.getf (i := 1) (v := (.long n2)) d17_29 (w165 hw) O_y rfl rfl (pc' := 32) rfl ?_
  refine WP.lcmpGe d17_32 rfl d17_33 (tgt := 40) (by decide) (pc' := 36) rfl (fun c32 => ?_) (fun c32 => ?_)
  ·
    refine WP.iconst d17_40 (z := (0 : Int32)) rfl (pc' := 41) rfl ?_
    exact WP.retN d17_41 (t := .boolean) rfl (by simp) (by decide) (by decide) ⟨rfl, 0, own_q0, Or.inr ⟨by decide, by omega⟩⟩
  refine WP.iconst d17_36 (z := (1 : Int32)) rfl (pc' := 37) rfl ?_
  refine WP.goto d17_37 (pc' := 41) (by decide) ?_
  exact WP.retN d17_41 (t := .boolean) rfl (by simp) (by decide) (by decide) ⟨rfl, 1, own_q1, Or.inl ⟨by decide, by omega⟩⟩
theorem bef_met {l : Launch} {Z : State} {a0 : Array Value} (hw : HW Z a0) {n0 : Nat} {h : Heap} (x y : Addr) (s1 n1 s2 n2 : Int64) (O_x : Ob Z h x "com/example/apportion/apportion/GridJob" L_GJ (jv s1 n1)) (O_y : Ob Z h y "com/example/apportion/apportion/GridJob" L_GJ (jv s2 n2)) : OMet l (⟨"com/example/apportion/apportion/JobsByStartFirstPinLaw", "before", "(Lcom/example/apportion/apportion/GridJob;Lcom/example/apportion/apportion/GridJob;)Z"⟩ : MethodName) B21 Z n0 #[(.ref x), (.ref y)] h (fun v h' => h = h' ∧ ∃ r : Int32, v = some (.int r) ∧ ((r.toInt = 1 ∧ (s1.toInt < s2.toInt ∨ (s1.toInt = s2.toInt ∧ n1.toInt < n2.toInt))) ∨ (r.toInt = 0 ∧ ¬ (s1.toInt < s2.toInt ∨ (s1.toInt = s2.toInt ∧ n1.toInt < n2.toInt))))) := by
  refine OMet.of_wp (ls0 := #[.val (.ref x), .val (.ref y)]) pl21 rfl rfl (fun m => own_entry 0 rfl rfl) ?_
  have k32_0 : (0 : Int32).toInt = 0 := by decide
  have k32_1 : (1 : Int32).toInt = 1 := by decide
  refine WP.aloadN d21_0 rfl rfl (pc' := 1) rfl ?_
  refine WP.getf (i := 9) (v := (.long s1)) d21_1 (w94 hw) O_x rfl rfl (pc' := 4) rfl ?_
  refine WP.aloadN d21_4 rfl rfl (pc' := 5) rfl ?_
  refine WP.getf (i := 9) (v := (.long s2)) d21_5 (w94 hw) O_y rfl rfl (pc' := 8) rfl ?_
  refine WP.lcmpGe d21_8 rfl d21_9 (tgt := 14) (by decide) (pc' := 12) rfl (fun c8 => ?_) (fun c8 => ?_)
  ·
    refine WP.aloadN d21_14 rfl rfl (pc' := 15) rfl ?_
    refine WP.getf (i := 9) (v := (.long s1)) d21_15 (w94 hw) O_x rfl rfl (pc' := 18) rfl ?_
    refine WP.aloadN d21_18 rfl rfl (pc' := 19) rfl ?_
    refine WP.getf (i := 9) (v := (.long s2)) d21_19 (w94 hw) O_y rfl rfl (pc' := 22) rfl ?_
    refine WP.lcmpLe d21_22 rfl d21_23 (tgt := 28) (by decide) (pc' := 26) rfl (fun c22 => ?_) (fun c22 => ?_)
    ·
      refine WP.aloadN d21_28 rfl rfl (pc' := 29) rfl ?_
      refine WP.getf (i := 1) (v := (.long n1)) d21_29 (w177 hw) O_x rfl rfl (pc' := 32) rfl ?_
      refine WP.aloadN d21_32 rfl rfl (pc' := 33) rfl ?_
      refine WP.getf (i := 1) (v := (.long n2)) d21_33 (w177 hw) O_y rfl rfl (pc' := 36) rfl ?_
      refine WP.lcmpGe d21_36 rfl d21_37 (tgt := 44) (by decide) (pc' := 40) rfl (fun c36 => ?_) (fun c36 => ?_)
      ·
        refine WP.iconst d21_44 (z := (0 : Int32)) rfl (pc' := 45) rfl ?_
        exact WP.retN d21_45 (t := .boolean) rfl (by simp) (by decide) (by decide) ⟨rfl, 0, own_q0, Or.inr ⟨by decide, by omega⟩⟩
      refine WP.iconst d21_40 (z := (1 : Int32)) rfl (pc' := 41) rfl ?_
      refine WP.goto d21_41 (pc' := 45) (by decide) ?_
      exact WP.retN d21_45 (t := .boolean) rfl (by simp) (by decide) (by decide) ⟨rfl, 1, own_q1, Or.inl ⟨by decide, by omega⟩⟩
    refine WP.iconst d21_26 (z := (0 : Int32)) rfl (pc' := 27) rfl ?_
    exact WP.retN d21_27 (t := .boolean) rfl (by simp) (by decide) (by decide) ⟨rfl, 0, own_q0, Or.inr ⟨by decide, by omega⟩⟩
  refine WP.iconst d21_12 (z := (1 : Int32)) rfl (pc' := 13) rfl ?_
  exact WP.retN d21_13 (t := .boolean) rfl (by simp) (by decide) (by decide) ⟨rfl, 1, own_q1, Or.inl ⟨by decide, by omega⟩⟩
theorem ndi_met {l : Launch} {Z : State} {a0 : Array Value} (hw : HW Z a0) {n0 : Nat} {h : Heap} (b j : Addr) (s n : Int64) (g_b : n0 ≤ b) (O_b : Ob Z h b "com/example/apportion/apportion/JobsByStart$Node" L_ND [.null, (.long 0), .null, (.long 0), .null, .null]) (O_j : Ob Z h j "com/example/apportion/apportion/GridJob" L_GJ (jv s n)) (n_bj : b ≠ j) : OMet l (⟨"com/example/apportion/apportion/JobsByStart$Node", "<init>", "(Lcom/example/apportion/apportion/GridJob;)V"⟩ : MethodName) B14 Z n0 #[(.ref b), (.ref j)] h (fun v h' => v = none ∧ Keep h h' [b] ∧ ∃ pr : Int64, Ob Z h' b "com/example/apportion/apportion/JobsByStart$Node" L_ND [.ref j, .long pr, .ref j, .long 0, .null, .null]) := by
  refine OMet.of_wp (ls0 := #[.val (.ref b), .val (.ref j)]) pl14 rfl rfl (fun m => own_entry 0 rfl rfl) ?_
  have k64_0 : (0 : Int64).toInt = 0 := by decide
  have KE : Keep h h [b] := Keep.refl _ _
  refine WP.aloadN d14_0 rfl rfl (pc' := 1) rfl ?_
  refine WP.initO (a := b) d14_1 (w110 hw) (w7 hw) (w8 hw) rfl (by decide) (Nat.le_of_ble_eq_true rfl) (pc' := 4) rfl ?_
  refine WP.aloadN d14_4 rfl rfl (pc' := 5) rfl ?_
  refine WP.aloadN d14_5 rfl rfl (pc' := 6) rfl ?_
  refine WP.putf (i := 0) d14_6 (w111 hw) O_b (lay_ND hw) (by decide) rfl (Or.inr ⟨(w112 hw), rfl, rfl⟩) (w105 hw) (t := (.object "com/example/apportion/apportion/GridJob")) (by decide) rfl rfl g_b (pc' := 9) rfl ?_
  intro h1 K2 O_n
  replace KE := KE.trans K2 (own_all (Or.inl (by simp)) own_all0)
  replace O_j := O_j.keep K2 (own_cons (by first | assumption | exact Ne.symm (by assumption) | exact Nat.ne_of_lt (by assumption) | exact Nat.ne_of_gt (by assumption)) own_nil)
  replace O_b : Ob Z h1 b "com/example/apportion/apportion/JobsByStart$Node" L_ND [(.ref j), (.long 0), .null, (.long 0), .null, .null] := O_n
  clear O_n
  refine WP.aloadN d14_9 rfl rfl (pc' := 10) rfl ?_
  refine WP.aloadN d14_10 rfl rfl (pc' := 11) rfl ?_
  refine WP.getf (i := 1) (v := (.long n)) d14_11 (w113 hw) O_j rfl rfl (pc' := 14) rfl ?_
  refine WP.callS (y := (⟨"com/example/apportion/apportion/SplitMix64", "mix", "(J)J"⟩ : MethodName)) (By := B15) (as := [(.long n)]) (rest := [(.ref b)]) d14_14 (w114 hw) (w115 hw) (w116 hw) (w117 hw) (by decide) (mix_met hw n) pd_5 rfl rfl rfl (by decide) (Nat.le_of_ble_eq_true rfl) (by decide) (by decide) (pc' := 17) rfl ?_
  rintro _ _ ⟨rfl, pr, rfl⟩
  show WP _ _ _ _ _ _ _ _ _ _ [(.long pr), (.ref b)]
  refine WP.putf (i := 1) d14_17 (w120 hw) O_b (lay_ND hw) (by decide) rfl (Or.inr ⟨(w121 hw), rfl, rfl⟩) (w105 hw) (t := .long) (by decide) rfl rfl g_b (pc' := 20) rfl ?_
  intro h4 K5 O_n
  replace KE := KE.trans K5 (own_all (Or.inl (by simp)) own_all0)
  replace O_j := O_j.keep K5 (own_cons (by first | assumption | exact Ne.symm (by assumption) | exact Nat.ne_of_lt (by assumption) | exact Nat.ne_of_gt (by assumption)) own_nil)
  replace O_b : Ob Z h4 b "com/example/apportion/apportion/JobsByStart$Node" L_ND [(.ref j), (.long pr), .null, (.long 0), .null, .null] := O_n
  clear O_n
  refine WP.aloadN d14_20 rfl rfl (pc' := 21) rfl ?_
  refine WP.aloadN d14_21 rfl rfl (pc' := 22) rfl ?_
  refine WP.putf (i := 2) d14_22 (w122 hw) O_b (lay_ND hw) (by decide) rfl (Or.inl (w123 hw)) (w105 hw) (t := (.object "com/example/apportion/apportion/GridJob")) (by decide) rfl rfl g_b (pc' := 25) rfl ?_
  intro h6 K7 O_n
  replace KE := KE.trans K7 (own_all (Or.inl (by simp)) own_all0)
  replace O_j := O_j.keep K7 (own_cons (by first | assumption | exact Ne.symm (by assumption) | exact Nat.ne_of_lt (by assumption) | exact Nat.ne_of_gt (by assumption)) own_nil)
  replace O_b : Ob Z h6 b "com/example/apportion/apportion/JobsByStart$Node" L_ND [(.ref j), (.long pr), (.ref j), (.long 0), .null, .null] := O_n
  clear O_n
  refine WP.aloadN d14_25 rfl rfl (pc' := 26) rfl ?_
  refine WP.aloadN d14_26 rfl rfl (pc' := 27) rfl ?_
  refine WP.getf (i := 10) (v := (.long (0 : Int64))) d14_27 (w124 hw) O_j rfl rfl (pc' := 30) rfl ?_
  refine WP.putf (i := 3) d14_30 (w126 hw) O_b (lay_ND hw) (by decide) rfl (Or.inl (w127 hw)) (w105 hw) (t := .long) (by decide) rfl rfl g_b (pc' := 33) rfl ?_
  intro h8 K9 O_n
  replace KE := KE.trans K9 (own_all (Or.inl (by simp)) own_all0)
  replace O_j := O_j.keep K9 (own_cons (by first | assumption | exact Ne.symm (by assumption) | exact Nat.ne_of_lt (by assumption) | exact Nat.ne_of_gt (by assumption)) own_nil)
  replace O_b : Ob Z h8 b "com/example/apportion/apportion/JobsByStart$Node" L_ND [(.ref j), (.long pr), (.ref j), (.long (0 : Int64)), .null, .null] := O_n
  clear O_n
  exact WP.ret0 d14_33 rfl (by decide) (by decide) ⟨rfl, KE, pr, O_b⟩
def CH (Z : State) (JS : List Addr) (h : Heap) (v : Value) : Prop := v = .null ∨ ∃ (b j t : Addr) (p le : Int64) (l r : Value), v = .ref b ∧ Ob Z h b "com/example/apportion/apportion/JobsByStart$Node" L_ND [.ref j, .long p, .ref t, .long le, l, r] ∧ t ∈ JS
theorem pul_NN {l : Launch} {Z : State} {a0 : Array Value} (hw : HW Z a0) {n0 : Nat} {h : Heap} (JS : List Addr) (sf nf : Addr → Int64) (J : JOK Z h JS sf nf) (a j t : Addr) (p le : Int64) (g_a : n0 ≤ a) (hj : j ∈ JS) (O_a : Ob Z h a "com/example/apportion/apportion/JobsByStart$Node" L_ND [.ref j, .long p, .ref t, .long le, .null, .null]) : OMet l (⟨"com/example/apportion/apportion/JobsByStart", "pull", "(Lcom/example/apportion/apportion/JobsByStart$Node;)V"⟩ : MethodName) B18 Z n0 #[(.ref a)] h (fun v h' => v = none ∧ Keep h h' [a] ∧ ∃ le' : Int64, Ob Z h' a "com/example/apportion/apportion/JobsByStart$Node" L_ND [.ref j, .long p, .ref j, .long le', .null, .null]) := by
  refine OMet.of_wp (ls0 := #[.val (.ref a), .unset, .unset, .unset]) pl18 rfl rfl (fun m => own_entry 3 rfl rfl) ?_
  have O_j := J j hj
  have k64_0 : (0 : Int64).toInt = 0 := by decide
  have KE : Keep h h [a] := Keep.refl _ _
  refine WP.aloadN d18_0 rfl rfl (pc' := 1) rfl ?_
  refine WP.getf (i := 0) (v := (.ref j)) d18_1 (w131 hw) O_a rfl rfl (pc' := 4) rfl ?_
  refine WP.astoreN d18_4 (pc' := 5) rfl rfl (ls' := #[.val (.ref a), .val (.ref j), .unset, .unset]) rfl ?_
  refine WP.aloadN d18_5 rfl rfl (pc' := 6) rfl ?_
  refine WP.getf (i := 0) (v := (.ref j)) d18_6 (w131 hw) O_a rfl rfl (pc' := 9) rfl ?_
  refine WP.getf (i := 10) (v := (.long (0 : Int64))) d18_9 (w142 hw) O_j rfl rfl (pc' := 12) rfl ?_
  refine WP.lstoreN d18_12 (pc' := 13) rfl (ls' := #[.val (.ref a), .val (.ref j), .val (.long (0 : Int64)), .second]) rfl ?_
  refine WP.aloadN d18_13 rfl rfl (pc' := 14) rfl ?_
  refine WP.getf (i := 4) (v := .null) d18_14 (w136 hw) O_a rfl rfl (pc' := 17) rfl ?_
  refine WP.ifnullY d18_17 (pc' := 58) (by decide) ?_
  refine WP.aloadN d18_58 rfl rfl (pc' := 59) rfl ?_
  refine WP.getf (i := 5) (v := .null) d18_59 (w154 hw) O_a rfl rfl (pc' := 62) rfl ?_
  refine WP.ifnullY d18_62 (pc' := 103) (by decide) ?_
  refine WP.aloadN d18_103 rfl rfl (pc' := 104) rfl ?_
  refine WP.aloadN d18_104 rfl rfl (pc' := 105) rfl ?_
  refine WP.putf (i := 2) d18_105 (w143 hw) O_a (lay_ND hw) (by decide) rfl (Or.inl (w123 hw)) (w105 hw) (t := (.object "com/example/apportion/apportion/GridJob")) (by decide) rfl rfl g_a (pc' := 108) rfl ?_
  intro h1 K2 O_n
  replace KE := KE.trans K2 (own_all (Or.inl (by simp)) own_all0)
  replace O_a : Ob Z h1 a "com/example/apportion/apportion/JobsByStart$Node" L_ND [(.ref j), (.long p), (.ref j), (.long le), .null, .null] := O_n
  clear O_n
  refine WP.aloadN d18_108 rfl rfl (pc' := 109) rfl ?_
  refine WP.lloadN d18_109 rfl (pc' := 110) rfl ?_
  refine WP.putf (i := 3) d18_110 (w149 hw) O_a (lay_ND hw) (by decide) rfl (Or.inl (w127 hw)) (w105 hw) (t := .long) (by decide) rfl rfl g_a (pc' := 113) rfl ?_
  intro h3 K4 O_n
  replace KE := KE.trans K4 (own_all (Or.inl (by simp)) own_all0)
  replace O_a : Ob Z h3 a "com/example/apportion/apportion/JobsByStart$Node" L_ND [(.ref j), (.long p), (.ref j), (.long (0 : Int64)), .null, .null] := O_n
  clear O_n
  exact WP.ret0 d18_113 rfl (by decide) (by decide) ⟨rfl, KE, _, O_a⟩
theorem pul_NR {l : Launch} {Z : State} {a0 : Array Value} (hw : HW Z a0) {n0 : Nat} {h : Heap} (JS : List Addr) (sf nf : Addr → Int64) (J : JOK Z h JS sf nf) (a j t : Addr) (p le : Int64) (g_a : n0 ≤ a) (hj : j ∈ JS) (yb yj yt : Addr) (yp ye : Int64) (yl yr : Value) (O_yb : Ob Z h yb "com/example/apportion/apportion/JobsByStart$Node" L_ND [.ref yj, .long yp, .ref yt, .long ye, yl, yr]) (hyt : yt ∈ JS) (O_a : Ob Z h a "com/example/apportion/apportion/JobsByStart$Node" L_ND [.ref j, .long p, .ref t, .long le, .null, (.ref yb)]) : OMet l (⟨"com/example/apportion/apportion/JobsByStart", "pull", "(Lcom/example/apportion/apportion/JobsByStart$Node;)V"⟩ : MethodName) B18 Z n0 #[(.ref a)] h (fun v h' => v = none ∧ Keep h h' [a] ∧ ∃ le' : Int64, Ob Z h' a "com/example/apportion/apportion/JobsByStart$Node" L_ND [.ref j, .long p, .ref j, .long le', .null, (.ref yb)]) := by
  refine OMet.of_wp (ls0 := #[.val (.ref a), .unset, .unset, .unset]) pl18 rfl rfl (fun m => own_entry 3 rfl rfl) ?_
  have O_j := J j hj
  have k32_0 : (0 : Int32).toInt = 0 := by decide
  have k64_0 : (0 : Int64).toInt = 0 := by decide
  have KE : Keep h h [a] := Keep.refl _ _
  refine WP.aloadN d18_0 rfl rfl (pc' := 1) rfl ?_
  refine WP.getf (i := 0) (v := (.ref j)) d18_1 (w131 hw) O_a rfl rfl (pc' := 4) rfl ?_
  refine WP.astoreN d18_4 (pc' := 5) rfl rfl (ls' := #[.val (.ref a), .val (.ref j), .unset, .unset]) rfl ?_
  refine WP.aloadN d18_5 rfl rfl (pc' := 6) rfl ?_
  refine WP.getf (i := 0) (v := (.ref j)) d18_6 (w131 hw) O_a rfl rfl (pc' := 9) rfl ?_
  refine WP.getf (i := 10) (v := (.long (0 : Int64))) d18_9 (w142 hw) O_j rfl rfl (pc' := 12) rfl ?_
  refine WP.lstoreN d18_12 (pc' := 13) rfl (ls' := #[.val (.ref a), .val (.ref j), .val (.long (0 : Int64)), .second]) rfl ?_
  refine WP.aloadN d18_13 rfl rfl (pc' := 14) rfl ?_
  refine WP.getf (i := 4) (v := .null) d18_14 (w136 hw) O_a rfl rfl (pc' := 17) rfl ?_
  refine WP.ifnullY d18_17 (pc' := 58) (by decide) ?_
  refine WP.aloadN d18_58 rfl rfl (pc' := 59) rfl ?_
  refine WP.getf (i := 5) (v := (.ref yb)) d18_59 (w154 hw) O_a rfl rfl (pc' := 62) rfl ?_
  refine WP.ifnullN d18_62 (pc' := 65) rfl ?_
  refine WP.aloadN d18_65 rfl rfl (pc' := 66) rfl ?_
  refine WP.getf (i := 5) (v := (.ref yb)) d18_66 (w154 hw) O_a rfl rfl (pc' := 69) rfl ?_
  refine WP.getf (i := 2) (v := (.ref yt)) d18_69 (w143 hw) O_yb rfl rfl (pc' := 72) rfl ?_
  refine WP.aloadN d18_72 rfl rfl (pc' := 73) rfl ?_
  refine WP.callV (a := yt) (z := (⟨"com/example/apportion/apportion/GridJob", "deadlineLaterThan", "(Lcom/example/apportion/apportion/GridJob;)Z"⟩ : MethodName)) (Cl := "com/example/apportion/apportion/GridJob") (y := (⟨"com/example/apportion/apportion/GridJob", "deadlineLaterThan", "(Lcom/example/apportion/apportion/GridJob;)Z"⟩ : MethodName)) (By := B19) (as := [(.ref j)]) (rest := []) d18_73 (w144 hw) (w145 hw) (w147 hw) (w146 hw) (w41 hw) (w148 hw) rfl rfl (by decide) (J yt hyt).1 (dlt_met hw yt j _ _ _ _ (J yt hyt) O_j) pd_6 rfl rfl rfl (by decide) (Nat.le_of_ble_eq_true rfl) (by decide) (by decide) (pc' := 76) rfl ?_
  rintro _ _ ⟨rfl, rfl⟩
  show WP _ _ _ _ _ _ _ _ _ _ [(.int (0 : Int32))]
  refine WP.ifEq d18_76 (tgt := 89) (by decide) (pc' := 79) rfl (fun c76 => ?_) (fun c76 => ?_)
  ·
    refine WP.aloadN d18_89 rfl rfl (pc' := 90) rfl ?_
    refine WP.astoreN d18_90 (pc' := 91) rfl rfl (ls' := #[.val (.ref a), .val (.ref j), .val (.long (0 : Int64)), .second]) rfl ?_
    refine WP.lloadN d18_91 rfl (pc' := 92) rfl ?_
    refine WP.aloadN d18_92 rfl rfl (pc' := 93) rfl ?_
    refine WP.getf (i := 5) (v := (.ref yb)) d18_93 (w154 hw) O_a rfl rfl (pc' := 96) rfl ?_
    refine WP.getf (i := 3) (v := (.long ye)) d18_96 (w149 hw) O_yb rfl rfl (pc' := 99) rfl ?_
    refine WP.callS (y := (⟨"java/lang/Math", "max", "(JJ)J"⟩ : MethodName)) (By := B20) (as := [(.long (0 : Int64)), (.long ye)]) (rest := []) d18_99 (w150 hw) (w151 hw) (w152 hw) (w153 hw) (by decide) (mxJ_met hw (0 : Int64) ye) pd_7 rfl rfl rfl (by decide) (Nat.le_of_ble_eq_true rfl) (by decide) (by decide) (pc' := 102) rfl ?_
    rintro _ _ ⟨rfl, m2, rfl⟩
    show WP _ _ _ _ _ _ _ _ _ _ [(.long m2)]
    refine WP.lstoreN d18_102 (pc' := 103) rfl (ls' := #[.val (.ref a), .val (.ref j), .val (.long m2), .second]) rfl ?_
    refine WP.aloadN d18_103 rfl rfl (pc' := 104) rfl ?_
    refine WP.aloadN d18_104 rfl rfl (pc' := 105) rfl ?_
    refine WP.putf (i := 2) d18_105 (w143 hw) O_a (lay_ND hw) (by decide) rfl (Or.inl (w123 hw)) (w105 hw) (t := (.object "com/example/apportion/apportion/GridJob")) (by decide) rfl rfl g_a (pc' := 108) rfl ?_
    intro h3 K4 O_n
    replace KE := KE.trans K4 (own_all (Or.inl (by simp)) own_all0)
    replace O_a : Ob Z h3 a "com/example/apportion/apportion/JobsByStart$Node" L_ND [(.ref j), (.long p), (.ref j), (.long le), .null, (.ref yb)] := O_n
    clear O_n
    refine WP.aloadN d18_108 rfl rfl (pc' := 109) rfl ?_
    refine WP.lloadN d18_109 rfl (pc' := 110) rfl ?_
    refine WP.putf (i := 3) d18_110 (w149 hw) O_a (lay_ND hw) (by decide) rfl (Or.inl (w127 hw)) (w105 hw) (t := .long) (by decide) rfl rfl g_a (pc' := 113) rfl ?_
    intro h5 K6 O_n
    replace KE := KE.trans K6 (own_all (Or.inl (by simp)) own_all0)
    replace O_a : Ob Z h5 a "com/example/apportion/apportion/JobsByStart$Node" L_ND [(.ref j), (.long p), (.ref j), (.long m2), .null, (.ref yb)] := O_n
    clear O_n
    exact WP.ret0 d18_113 rfl (by decide) (by decide) ⟨rfl, KE, _, O_a⟩
  exfalso; omega
theorem pul_RN {l : Launch} {Z : State} {a0 : Array Value} (hw : HW Z a0) {n0 : Nat} {h : Heap} (JS : List Addr) (sf nf : Addr → Int64) (J : JOK Z h JS sf nf) (a j t : Addr) (p le : Int64) (g_a : n0 ≤ a) (hj : j ∈ JS) (xb xj xt : Addr) (xp xe : Int64) (xl xr : Value) (O_xb : Ob Z h xb "com/example/apportion/apportion/JobsByStart$Node" L_ND [.ref xj, .long xp, .ref xt, .long xe, xl, xr]) (hxt : xt ∈ JS) (O_a : Ob Z h a "com/example/apportion/apportion/JobsByStart$Node" L_ND [.ref j, .long p, .ref t, .long le, (.ref xb), .null]) : OMet l (⟨"com/example/apportion/apportion/JobsByStart", "pull", "(Lcom/example/apportion/apportion/JobsByStart$Node;)V"⟩ : MethodName) B18 Z n0 #[(.ref a)] h (fun v h' => v = none ∧ Keep h h' [a] ∧ ∃ le' : Int64, Ob Z h' a "com/example/apportion/apportion/JobsByStart$Node" L_ND [.ref j, .long p, .ref j, .long le', (.ref xb), .null]) := by
  refine OMet.of_wp (ls0 := #[.val (.ref a), .unset, .unset, .unset]) pl18 rfl rfl (fun m => own_entry 3 rfl rfl) ?_
  have O_j := J j hj
  have k32_0 : (0 : Int32).toInt = 0 := by decide
  have k64_0 : (0 : Int64).toInt = 0 := by decide
  have KE : Keep h h [a] := Keep.refl _ _
  refine WP.aloadN d18_0 rfl rfl (pc' := 1) rfl ?_
  refine WP.getf (i := 0) (v := (.ref j)) d18_1 (w131 hw) O_a rfl rfl (pc' := 4) rfl ?_
  refine WP.astoreN d18_4 (pc' := 5) rfl rfl (ls' := #[.val (.ref a), .val (.ref j), .unset, .unset]) rfl ?_
  refine WP.aloadN d18_5 rfl rfl (pc' := 6) rfl ?_
  refine WP.getf (i := 0) (v := (.ref j)) d18_6 (w131 hw) O_a rfl rfl (pc' := 9) rfl ?_
  refine WP.getf (i := 10) (v := (.long (0 : Int64))) d18_9 (w142 hw) O_j rfl rfl (pc' := 12) rfl ?_
  refine WP.lstoreN d18_12 (pc' := 13) rfl (ls' := #[.val (.ref a), .val (.ref j), .val (.long (0 : Int64)), .second]) rfl ?_
  refine WP.aloadN d18_13 rfl rfl (pc' := 14) rfl ?_
  refine WP.getf (i := 4) (v := (.ref xb)) d18_14 (w136 hw) O_a rfl rfl (pc' := 17) rfl ?_
  refine WP.ifnullN d18_17 (pc' := 20) rfl ?_
  refine WP.aloadN d18_20 rfl rfl (pc' := 21) rfl ?_
  refine WP.getf (i := 4) (v := (.ref xb)) d18_21 (w136 hw) O_a rfl rfl (pc' := 24) rfl ?_
  refine WP.getf (i := 2) (v := (.ref xt)) d18_24 (w143 hw) O_xb rfl rfl (pc' := 27) rfl ?_
  refine WP.aloadN d18_27 rfl rfl (pc' := 28) rfl ?_
  refine WP.callV (a := xt) (z := (⟨"com/example/apportion/apportion/GridJob", "deadlineLaterThan", "(Lcom/example/apportion/apportion/GridJob;)Z"⟩ : MethodName)) (Cl := "com/example/apportion/apportion/GridJob") (y := (⟨"com/example/apportion/apportion/GridJob", "deadlineLaterThan", "(Lcom/example/apportion/apportion/GridJob;)Z"⟩ : MethodName)) (By := B19) (as := [(.ref j)]) (rest := []) d18_28 (w144 hw) (w145 hw) (w147 hw) (w146 hw) (w41 hw) (w148 hw) rfl rfl (by decide) (J xt hxt).1 (dlt_met hw xt j _ _ _ _ (J xt hxt) O_j) pd_6 rfl rfl rfl (by decide) (Nat.le_of_ble_eq_true rfl) (by decide) (by decide) (pc' := 31) rfl ?_
  rintro _ _ ⟨rfl, rfl⟩
  show WP _ _ _ _ _ _ _ _ _ _ [(.int (0 : Int32))]
  refine WP.ifEq d18_31 (tgt := 44) (by decide) (pc' := 34) rfl (fun c31 => ?_) (fun c31 => ?_)
  ·
    refine WP.aloadN d18_44 rfl rfl (pc' := 45) rfl ?_
    refine WP.astoreN d18_45 (pc' := 46) rfl rfl (ls' := #[.val (.ref a), .val (.ref j), .val (.long (0 : Int64)), .second]) rfl ?_
    refine WP.lloadN d18_46 rfl (pc' := 47) rfl ?_
    refine WP.aloadN d18_47 rfl rfl (pc' := 48) rfl ?_
    refine WP.getf (i := 4) (v := (.ref xb)) d18_48 (w136 hw) O_a rfl rfl (pc' := 51) rfl ?_
    refine WP.getf (i := 3) (v := (.long xe)) d18_51 (w149 hw) O_xb rfl rfl (pc' := 54) rfl ?_
    refine WP.callS (y := (⟨"java/lang/Math", "max", "(JJ)J"⟩ : MethodName)) (By := B20) (as := [(.long (0 : Int64)), (.long xe)]) (rest := []) d18_54 (w150 hw) (w151 hw) (w152 hw) (w153 hw) (by decide) (mxJ_met hw (0 : Int64) xe) pd_7 rfl rfl rfl (by decide) (Nat.le_of_ble_eq_true rfl) (by decide) (by decide) (pc' := 57) rfl ?_
    rintro _ _ ⟨rfl, m1, rfl⟩
    show WP _ _ _ _ _ _ _ _ _ _ [(.long m1)]
    refine WP.lstoreN d18_57 (pc' := 58) rfl (ls' := #[.val (.ref a), .val (.ref j), .val (.long m1), .second]) rfl ?_
    refine WP.aloadN d18_58 rfl rfl (pc' := 59) rfl ?_
    refine WP.getf (i := 5) (v := .null) d18_59 (w154 hw) O_a rfl rfl (pc' := 62) rfl ?_
    refine WP.ifnullY d18_62 (pc' := 103) (by decide) ?_
    refine WP.aloadN d18_103 rfl rfl (pc' := 104) rfl ?_
    refine WP.aloadN d18_104 rfl rfl (pc' := 105) rfl ?_
    refine WP.putf (i := 2) d18_105 (w143 hw) O_a (lay_ND hw) (by decide) rfl (Or.inl (w123 hw)) (w105 hw) (t := (.object "com/example/apportion/apportion/GridJob")) (by decide) rfl rfl g_a (pc' := 108) rfl ?_
    intro h3 K4 O_n
    replace KE := KE.trans K4 (own_all (Or.inl (by simp)) own_all0)
    replace O_a : Ob Z h3 a "com/example/apportion/apportion/JobsByStart$Node" L_ND [(.ref j), (.long p), (.ref j), (.long le), (.ref xb), .null] := O_n
    clear O_n
    refine WP.aloadN d18_108 rfl rfl (pc' := 109) rfl ?_
    refine WP.lloadN d18_109 rfl (pc' := 110) rfl ?_
    refine WP.putf (i := 3) d18_110 (w149 hw) O_a (lay_ND hw) (by decide) rfl (Or.inl (w127 hw)) (w105 hw) (t := .long) (by decide) rfl rfl g_a (pc' := 113) rfl ?_
    intro h5 K6 O_n
    replace KE := KE.trans K6 (own_all (Or.inl (by simp)) own_all0)
    replace O_a : Ob Z h5 a "com/example/apportion/apportion/JobsByStart$Node" L_ND [(.ref j), (.long p), (.ref j), (.long m1), (.ref xb), .null] := O_n
    clear O_n
    exact WP.ret0 d18_113 rfl (by decide) (by decide) ⟨rfl, KE, _, O_a⟩
  exfalso; omega
theorem pul_RR {l : Launch} {Z : State} {a0 : Array Value} (hw : HW Z a0) {n0 : Nat} {h : Heap} (JS : List Addr) (sf nf : Addr → Int64) (J : JOK Z h JS sf nf) (a j t : Addr) (p le : Int64) (g_a : n0 ≤ a) (hj : j ∈ JS) (xb xj xt : Addr) (xp xe : Int64) (xl xr : Value) (O_xb : Ob Z h xb "com/example/apportion/apportion/JobsByStart$Node" L_ND [.ref xj, .long xp, .ref xt, .long xe, xl, xr]) (hxt : xt ∈ JS) (yb yj yt : Addr) (yp ye : Int64) (yl yr : Value) (O_yb : Ob Z h yb "com/example/apportion/apportion/JobsByStart$Node" L_ND [.ref yj, .long yp, .ref yt, .long ye, yl, yr]) (hyt : yt ∈ JS) (O_a : Ob Z h a "com/example/apportion/apportion/JobsByStart$Node" L_ND [.ref j, .long p, .ref t, .long le, (.ref xb), (.ref yb)]) : OMet l (⟨"com/example/apportion/apportion/JobsByStart", "pull", "(Lcom/example/apportion/apportion/JobsByStart$Node;)V"⟩ : MethodName) B18 Z n0 #[(.ref a)] h (fun v h' => v = none ∧ Keep h h' [a] ∧ ∃ le' : Int64, Ob Z h' a "com/example/apportion/apportion/JobsByStart$Node" L_ND [.ref j, .long p, .ref j, .long le', (.ref xb), (.ref yb)]) := by
  refine OMet.of_wp (ls0 := #[.val (.ref a), .unset, .unset, .unset]) pl18 rfl rfl (fun m => own_entry 3 rfl rfl) ?_
  have O_j := J j hj
  have k32_0 : (0 : Int32).toInt = 0 := by decide
  have k64_0 : (0 : Int64).toInt = 0 := by decide
  have KE : Keep h h [a] := Keep.refl _ _
  refine WP.aloadN d18_0 rfl rfl (pc' := 1) rfl ?_
  refine WP.getf (i := 0) (v := (.ref j)) d18_1 (w131 hw) O_a rfl rfl (pc' := 4) rfl ?_
  refine WP.astoreN d18_4 (pc' := 5) rfl rfl (ls' := #[.val (.ref a), .val (.ref j), .unset, .unset]) rfl ?_
  refine WP.aloadN d18_5 rfl rfl (pc' := 6) rfl ?_
  refine WP.getf (i := 0) (v := (.ref j)) d18_6 (w131 hw) O_a rfl rfl (pc' := 9) rfl ?_
  refine WP.getf (i := 10) (v := (.long (0 : Int64))) d18_9 (w142 hw) O_j rfl rfl (pc' := 12) rfl ?_
  refine WP.lstoreN d18_12 (pc' := 13) rfl (ls' := #[.val (.ref a), .val (.ref j), .val (.long (0 : Int64)), .second]) rfl ?_
  refine WP.aloadN d18_13 rfl rfl (pc' := 14) rfl ?_
  refine WP.getf (i := 4) (v := (.ref xb)) d18_14 (w136 hw) O_a rfl rfl (pc' := 17) rfl ?_
  refine WP.ifnullN d18_17 (pc' := 20) rfl ?_
  refine WP.aloadN d18_20 rfl rfl (pc' := 21) rfl ?_
  refine WP.getf (i := 4) (v := (.ref xb)) d18_21 (w136 hw) O_a rfl rfl (pc' := 24) rfl ?_
  refine WP.getf (i := 2) (v := (.ref xt)) d18_24 (w143 hw) O_xb rfl rfl (pc' := 27) rfl ?_
  refine WP.aloadN d18_27 rfl rfl (pc' := 28) rfl ?_
  refine WP.callV (a := xt) (z := (⟨"com/example/apportion/apportion/GridJob", "deadlineLaterThan", "(Lcom/example/apportion/apportion/GridJob;)Z"⟩ : MethodName)) (Cl := "com/example/apportion/apportion/GridJob") (y := (⟨"com/example/apportion/apportion/GridJob", "deadlineLaterThan", "(Lcom/example/apportion/apportion/GridJob;)Z"⟩ : MethodName)) (By := B19) (as := [(.ref j)]) (rest := []) d18_28 (w144 hw) (w145 hw) (w147 hw) (w146 hw) (w41 hw) (w148 hw) rfl rfl (by decide) (J xt hxt).1 (dlt_met hw xt j _ _ _ _ (J xt hxt) O_j) pd_6 rfl rfl rfl (by decide) (Nat.le_of_ble_eq_true rfl) (by decide) (by decide) (pc' := 31) rfl ?_
  rintro _ _ ⟨rfl, rfl⟩
  show WP _ _ _ _ _ _ _ _ _ _ [(.int (0 : Int32))]
  refine WP.ifEq d18_31 (tgt := 44) (by decide) (pc' := 34) rfl (fun c31 => ?_) (fun c31 => ?_)
  ·
    refine WP.aloadN d18_44 rfl rfl (pc' := 45) rfl ?_
    refine WP.astoreN d18_45 (pc' := 46) rfl rfl (ls' := #[.val (.ref a), .val (.ref j), .val (.long (0 : Int64)), .second]) rfl ?_
    refine WP.lloadN d18_46 rfl (pc' := 47) rfl ?_
    refine WP.aloadN d18_47 rfl rfl (pc' := 48) rfl ?_
    refine WP.getf (i := 4) (v := (.ref xb)) d18_48 (w136 hw) O_a rfl rfl (pc' := 51) rfl ?_
    refine WP.getf (i := 3) (v := (.long xe)) d18_51 (w149 hw) O_xb rfl rfl (pc' := 54) rfl ?_
    refine WP.callS (y := (⟨"java/lang/Math", "max", "(JJ)J"⟩ : MethodName)) (By := B20) (as := [(.long (0 : Int64)), (.long xe)]) (rest := []) d18_54 (w150 hw) (w151 hw) (w152 hw) (w153 hw) (by decide) (mxJ_met hw (0 : Int64) xe) pd_7 rfl rfl rfl (by decide) (Nat.le_of_ble_eq_true rfl) (by decide) (by decide) (pc' := 57) rfl ?_
    rintro _ _ ⟨rfl, m1, rfl⟩
    show WP _ _ _ _ _ _ _ _ _ _ [(.long m1)]
    refine WP.lstoreN d18_57 (pc' := 58) rfl (ls' := #[.val (.ref a), .val (.ref j), .val (.long m1), .second]) rfl ?_
    refine WP.aloadN d18_58 rfl rfl (pc' := 59) rfl ?_
    refine WP.getf (i := 5) (v := (.ref yb)) d18_59 (w154 hw) O_a rfl rfl (pc' := 62) rfl ?_
    refine WP.ifnullN d18_62 (pc' := 65) rfl ?_
    refine WP.aloadN d18_65 rfl rfl (pc' := 66) rfl ?_
    refine WP.getf (i := 5) (v := (.ref yb)) d18_66 (w154 hw) O_a rfl rfl (pc' := 69) rfl ?_
    refine WP.getf (i := 2) (v := (.ref yt)) d18_69 (w143 hw) O_yb rfl rfl (pc' := 72) rfl ?_
    refine WP.aloadN d18_72 rfl rfl (pc' := 73) rfl ?_
    refine WP.callV (a := yt) (z := (⟨"com/example/apportion/apportion/GridJob", "deadlineLaterThan", "(Lcom/example/apportion/apportion/GridJob;)Z"⟩ : MethodName)) (Cl := "com/example/apportion/apportion/GridJob") (y := (⟨"com/example/apportion/apportion/GridJob", "deadlineLaterThan", "(Lcom/example/apportion/apportion/GridJob;)Z"⟩ : MethodName)) (By := B19) (as := [(.ref j)]) (rest := []) d18_73 (w144 hw) (w145 hw) (w147 hw) (w146 hw) (w41 hw) (w148 hw) rfl rfl (by decide) (J yt hyt).1 (dlt_met hw yt j _ _ _ _ (J yt hyt) O_j) pd_6 rfl rfl rfl (by decide) (Nat.le_of_ble_eq_true rfl) (by decide) (by decide) (pc' := 76) rfl ?_
    rintro _ _ ⟨rfl, rfl⟩
    show WP _ _ _ _ _ _ _ _ _ _ [(.int (0 : Int32))]
    refine WP.ifEq d18_76 (tgt := 89) (by decide) (pc' := 79) rfl (fun c76 => ?_) (fun c76 => ?_)
    ·
      refine WP.aloadN d18_89 rfl rfl (pc' := 90) rfl ?_
      refine WP.astoreN d18_90 (pc' := 91) rfl rfl (ls' := #[.val (.ref a), .val (.ref j), .val (.long m1), .second]) rfl ?_
      refine WP.lloadN d18_91 rfl (pc' := 92) rfl ?_
      refine WP.aloadN d18_92 rfl rfl (pc' := 93) rfl ?_
      refine WP.getf (i := 5) (v := (.ref yb)) d18_93 (w154 hw) O_a rfl rfl (pc' := 96) rfl ?_
      refine WP.getf (i := 3) (v := (.long ye)) d18_96 (w149 hw) O_yb rfl rfl (pc' := 99) rfl ?_
      refine WP.callS (y := (⟨"java/lang/Math", "max", "(JJ)J"⟩ : MethodName)) (By := B20) (as := [(.long m1), (.long ye)]) (rest := []) d18_99 (w150 hw) (w151 hw) (w152 hw) (w153 hw) (by decide) (mxJ_met hw m1 ye) pd_7 rfl rfl rfl (by decide) (Nat.le_of_ble_eq_true rfl) (by decide) (by decide) (pc' := 102) rfl ?_
      rintro _ _ ⟨rfl, m2, rfl⟩
      show WP _ _ _ _ _ _ _ _ _ _ [(.long m2)]
      refine WP.lstoreN d18_102 (pc' := 103) rfl (ls' := #[.val (.ref a), .val (.ref j), .val (.long m2), .second]) rfl ?_
      refine WP.aloadN d18_103 rfl rfl (pc' := 104) rfl ?_
      refine WP.aloadN d18_104 rfl rfl (pc' := 105) rfl ?_
      refine WP.putf (i := 2) d18_105 (w143 hw) O_a (lay_ND hw) (by decide) rfl (Or.inl (w123 hw)) (w105 hw) (t := (.object "com/example/apportion/apportion/GridJob")) (by decide) rfl rfl g_a (pc' := 108) rfl ?_
      intro h5 K6 O_n
      replace KE := KE.trans K6 (own_all (Or.inl (by simp)) own_all0)
      replace O_a : Ob Z h5 a "com/example/apportion/apportion/JobsByStart$Node" L_ND [(.ref j), (.long p), (.ref j), (.long le), (.ref xb), (.ref yb)] := O_n
      clear O_n
      refine WP.aloadN d18_108 rfl rfl (pc' := 109) rfl ?_
      refine WP.lloadN d18_109 rfl (pc' := 110) rfl ?_
      refine WP.putf (i := 3) d18_110 (w149 hw) O_a (lay_ND hw) (by decide) rfl (Or.inl (w127 hw)) (w105 hw) (t := .long) (by decide) rfl rfl g_a (pc' := 113) rfl ?_
      intro h7 K8 O_n
      replace KE := KE.trans K8 (own_all (Or.inl (by simp)) own_all0)
      replace O_a : Ob Z h7 a "com/example/apportion/apportion/JobsByStart$Node" L_ND [(.ref j), (.long p), (.ref j), (.long m2), (.ref xb), (.ref yb)] := O_n
      clear O_n
      exact WP.ret0 d18_113 rfl (by decide) (by decide) ⟨rfl, KE, _, O_a⟩
    exfalso; omega
  exfalso; omega
theorem pul_met {l : Launch} {Z : State} {a0 : Array Value} (hw : HW Z a0) {n0 : Nat} {h : Heap} (JS : List Addr) (sf nf : Addr → Int64) (J : JOK Z h JS sf nf) (a j t : Addr) (p le : Int64) (lv rv : Value) (g_a : n0 ≤ a) (hj : j ∈ JS) (O_a : Ob Z h a "com/example/apportion/apportion/JobsByStart$Node" L_ND [.ref j, .long p, .ref t, .long le, lv, rv]) (hl : CH Z JS h lv) (hr : CH Z JS h rv) : OMet l (⟨"com/example/apportion/apportion/JobsByStart", "pull", "(Lcom/example/apportion/apportion/JobsByStart$Node;)V"⟩ : MethodName) B18 Z n0 #[(.ref a)] h (fun v h' => v = none ∧ Keep h h' [a] ∧ ∃ le' : Int64, Ob Z h' a "com/example/apportion/apportion/JobsByStart$Node" L_ND [.ref j, .long p, .ref j, .long le', lv, rv]) := by
  rcases hl with rfl | ⟨lb, lj, lt', lp, le2, ll, lr, rfl, O_lb, hlt⟩ <;> rcases hr with rfl | ⟨rb, rj, rt, rp, re, rl, rr, rfl, O_rb, hrt⟩
  · exact pul_NN hw JS sf nf J a j t p le g_a hj O_a
  · exact pul_NR hw JS sf nf J a j t p le g_a hj rb rj rt rp re rl rr O_rb hrt O_a
  · exact pul_RN hw JS sf nf J a j t p le g_a hj lb lj lt' lp le2 ll lr O_lb hlt O_a
  · exact pul_RR hw JS sf nf J a j t p le g_a hj lb lj lt' lp le2 ll lr O_lb hlt rb rj rt rp re rl rr O_rb hrt O_a

section T2
variable {Z : State} {n0 : Nat} {JS : List Addr} {h h' : Heap} {sf nf : Addr → Int64} {v : Value} {js ws W : List Addr} {f f' : Nat}
theorem TR.isRef (T : TR Z n0 JS h f v js ws) : v.isRef = true := by
  cases f with
  | zero => obtain ⟨rfl, -⟩ := T; rfl
  | succ f => rw [TR_succ] at T; rcases T with ⟨rfl, -⟩ | ⟨a, j, t, p, le, lv, rv, jl, jr, wl, wr, rfl, -⟩ <;> rfl
theorem TR.ch (T : TR Z n0 JS h f v js ws) : CH Z JS h v := by
  cases f with
  | zero => obtain ⟨rfl, -⟩ := T; exact Or.inl rfl
  | succ f => rw [TR_succ] at T; rcases T with ⟨rfl, -⟩ | ⟨a, j, t, p, le, lv, rv, jl, jr, wl, wr, rfl, h2, h3, h4, -⟩; exact Or.inl rfl; exact Or.inr ⟨a, j, t, p, le, lv, rv, rfl, h2, h4⟩
end T2
def InsP (Z : State) (n0 : Nat) (JS : List Addr) (sf nf : Addr → Int64) (h h' : Heap) (f : Nat) (b jn : Addr) (js ws : List Addr) (r : Option Value) : Prop :=
  ∃ (v' : Value) (js' ws' : List Addr), r = some v' ∧ v' ≠ .null ∧ TR Z n0 JS h' (f + 1) v' js' ws' ∧ js'.Pairwise (lt sf nf) ∧ (∀ x, x ∈ js' ↔ x = jn ∨ x ∈ js) ∧ ws'.Nodup ∧ (∀ x, x ∈ ws' ↔ x = b ∨ x ∈ ws) ∧ Keep h h' (b :: ws)
def Bi0 : Bod := ("com/example/apportion/apportion/JobsByStart", "insert", prog_103_method_12_code, 3, some (.object "com/example/apportion/apportion/JobsByStart$Node"), ({ frames := 0, cells := 0, slots := 0, locals := 0 } : Room))
def Bi1 : Bod := ("com/example/apportion/apportion/JobsByStart", "insert", prog_103_method_12_code, 3, some (.object "com/example/apportion/apportion/JobsByStart$Node"), ({ frames := 2, cells := 0, slots := 0, locals := 40 } : Room))
def Bi2 : Bod := ("com/example/apportion/apportion/JobsByStart", "insert", prog_103_method_12_code, 3, some (.object "com/example/apportion/apportion/JobsByStart$Node"), ({ frames := 3, cells := 0, slots := 0, locals := 60 } : Room))
theorem ins0_n {l : Launch} {Z : State} {a0 : Array Value} (hw : HW Z a0) {n0 : Nat} {h : Heap} (JS : List Addr) (sf nf : Addr → Int64) (J : JOK Z h JS sf nf) (b jn tn : Addr) (pn ln : Int64) (O_b : Ob Z h b "com/example/apportion/apportion/JobsByStart$Node" L_ND [.ref jn, .long pn, .ref tn, .long ln, .null, .null]) (hjn : jn ∈ JS) (htn : tn ∈ JS) (g_b : n0 ≤ b) : OMet l (⟨"com/example/apportion/apportion/JobsByStart", "insert", "(Lcom/example/apportion/apportion/JobsByStart$Node;Lcom/example/apportion/apportion/JobsByStart$Node;)Lcom/example/apportion/apportion/JobsByStart$Node;"⟩ : MethodName) Bi0 Z n0 #[.null, (.ref b)] h (fun r h' => InsP Z n0 JS sf nf h h' 0 b jn [] [] r) := by
  refine OMet.of_wp (ls0 := #[.val .null, .val (.ref b), .unset]) pl16 rfl rfl (fun m => own_entry 1 rfl rfl) ?_
  refine WP.aloadN d16_0 rfl rfl (pc' := 1) rfl ?_
  refine WP.ifnonnullN d16_1 (pc' := 4) rfl ?_
  refine WP.aloadN d16_4 rfl rfl (pc' := 5) rfl ?_
  exact WP.retA d16_5 rfl rfl rfl (by decide) (by decide) ⟨.ref b, [jn], [b], rfl, nofun, Or.inr ⟨b, jn, tn, pn, ln, .null, .null, [], [], [], [], rfl, O_b, hjn, htn, g_b, TR.nil, TR.nil, rfl, rfl⟩, by simp, by simp, by simp, by simp, Keep.refl _ _⟩
theorem ins1_n {l : Launch} {Z : State} {a0 : Array Value} (hw : HW Z a0) {n0 : Nat} {h : Heap} (JS : List Addr) (sf nf : Addr → Int64) (J : JOK Z h JS sf nf) (b jn tn : Addr) (pn ln : Int64) (O_b : Ob Z h b "com/example/apportion/apportion/JobsByStart$Node" L_ND [.ref jn, .long pn, .ref tn, .long ln, .null, .null]) (hjn : jn ∈ JS) (htn : tn ∈ JS) (g_b : n0 ≤ b) : OMet l (⟨"com/example/apportion/apportion/JobsByStart", "insert", "(Lcom/example/apportion/apportion/JobsByStart$Node;Lcom/example/apportion/apportion/JobsByStart$Node;)Lcom/example/apportion/apportion/JobsByStart$Node;"⟩ : MethodName) Bi1 Z n0 #[.null, (.ref b)] h (fun r h' => InsP Z n0 JS sf nf h h' 1 b jn [] [] r) := by
  refine OMet.of_wp (ls0 := #[.val .null, .val (.ref b), .unset]) pl16 rfl rfl (fun m => own_entry 1 rfl rfl) ?_
  refine WP.aloadN d16_0 rfl rfl (pc' := 1) rfl ?_
  refine WP.ifnonnullN d16_1 (pc' := 4) rfl ?_
  refine WP.aloadN d16_4 rfl rfl (pc' := 5) rfl ?_
  exact WP.retA d16_5 rfl rfl rfl (by decide) (by decide) ⟨.ref b, [jn], [b], rfl, nofun, Or.inr ⟨b, jn, tn, pn, ln, .null, .null, [], [], [], [], rfl, O_b, hjn, htn, g_b, TR.nil, TR.nil, rfl, rfl⟩, by simp, by simp, by simp, by simp, Keep.refl _ _⟩
theorem ins2_n {l : Launch} {Z : State} {a0 : Array Value} (hw : HW Z a0) {n0 : Nat} {h : Heap} (JS : List Addr) (sf nf : Addr → Int64) (J : JOK Z h JS sf nf) (b jn tn : Addr) (pn ln : Int64) (O_b : Ob Z h b "com/example/apportion/apportion/JobsByStart$Node" L_ND [.ref jn, .long pn, .ref tn, .long ln, .null, .null]) (hjn : jn ∈ JS) (htn : tn ∈ JS) (g_b : n0 ≤ b) : OMet l (⟨"com/example/apportion/apportion/JobsByStart", "insert", "(Lcom/example/apportion/apportion/JobsByStart$Node;Lcom/example/apportion/apportion/JobsByStart$Node;)Lcom/example/apportion/apportion/JobsByStart$Node;"⟩ : MethodName) Bi2 Z n0 #[.null, (.ref b)] h (fun r h' => InsP Z n0 JS sf nf h h' 2 b jn [] [] r) := by
  refine OMet.of_wp (ls0 := #[.val .null, .val (.ref b), .unset]) pl16 rfl rfl (fun m => own_entry 1 rfl rfl) ?_
  refine WP.aloadN d16_0 rfl rfl (pc' := 1) rfl ?_
  refine WP.ifnonnullN d16_1 (pc' := 4) rfl ?_
  refine WP.aloadN d16_4 rfl rfl (pc' := 5) rfl ?_
  exact WP.retA d16_5 rfl rfl rfl (by decide) (by decide) ⟨.ref b, [jn], [b], rfl, nofun, Or.inr ⟨b, jn, tn, pn, ln, .null, .null, [], [], [], [], rfl, O_b, hjn, htn, g_b, TR.nil, TR.nil, rfl, rfl⟩, by simp, by simp, by simp, by simp, Keep.refl _ _⟩

section T3
variable {sf nf : Addr → Int64} {js1 jl jr ws1 wl wr : List Addr} {j jn a b : Addr}
theorem lt_tr {x y z : Addr} (p : lt sf nf x y) (q : lt sf nf y z) : lt sf nf x z := by unfold lt at *; omega
theorem insL_so (m : ∀ x, x ∈ js1 ↔ x = jn ∨ x ∈ jl) (s1 : js1.Pairwise (lt sf nf)) (so : (jl ++ j :: jr).Pairwise (lt sf nf)) (q : lt sf nf jn j) : (js1 ++ j :: jr).Pairwise (lt sf nf) ∧ ∀ x, x ∈ js1 ++ j :: jr ↔ x = jn ∨ x ∈ jl ++ j :: jr := by
  obtain ⟨p1, p2, p3⟩ := List.pairwise_append.mp so
  obtain ⟨p4, p5⟩ := List.pairwise_cons.mp p2
  refine ⟨List.pairwise_append.mpr ⟨s1, p2, fun x hx y hy => ?_⟩, fun x => by simp only [List.mem_append, m]; exact or_assoc⟩
  rcases (m x).mp hx with rfl | hx
  · rcases List.mem_cons.mp hy with rfl | hy
    · exact q
    · exact lt_tr q (p4 y hy)
  · exact p3 x hx y hy
theorem insR_so (m : ∀ x, x ∈ js1 ↔ x = jn ∨ x ∈ jr) (s1 : js1.Pairwise (lt sf nf)) (so : (jl ++ j :: jr).Pairwise (lt sf nf)) (q : lt sf nf j jn) : (jl ++ j :: js1).Pairwise (lt sf nf) ∧ ∀ x, x ∈ jl ++ j :: js1 ↔ x = jn ∨ x ∈ jl ++ j :: jr := by
  obtain ⟨p1, p2, p3⟩ := List.pairwise_append.mp so
  obtain ⟨p4, p5⟩ := List.pairwise_cons.mp p2
  have k : ∀ y ∈ js1, lt sf nf j y := fun y hy => by
    rcases (m y).mp hy with rfl | hy
    · exact q
    · exact p4 y hy
  refine ⟨List.pairwise_append.mpr ⟨p1, List.pairwise_cons.mpr ⟨k, s1⟩, fun x hx y hy => ?_⟩, fun x => by simp only [List.mem_append, List.mem_cons, m]; constructor <;> intro h <;> (rcases h with h | h | h | h) <;> simp [h]⟩
  rcases List.mem_cons.mp hy with rfl | hy
  · exact p3 x hx _ (by simp)
  · exact lt_tr (p3 x hx j (by simp)) (k y hy)
theorem insL_nd (m : ∀ x, x ∈ ws1 ↔ x = b ∨ x ∈ wl) (n1 : ws1.Nodup) (nd : (a :: (wl ++ wr)).Nodup) (hb : b ∉ a :: (wl ++ wr)) : (a :: (ws1 ++ wr)).Nodup ∧ ∀ x, x ∈ a :: (ws1 ++ wr) ↔ x = b ∨ x ∈ a :: (wl ++ wr) := by
  simp only [List.nodup_cons, List.nodup_append, List.mem_append, List.mem_cons, not_or] at nd hb ⊢
  obtain ⟨⟨q1, q2⟩, q3, q4, q5⟩ := nd
  obtain ⟨q6, q7, q8⟩ := hb
  refine ⟨⟨⟨fun h => ?_, q2⟩, n1, q4, fun x hx y hy => ?_⟩, fun x => by simp only [m, or_assoc]; exact or_left_comm⟩
  · rcases (m a).mp h with h | h
    · exact q6 h.symm
    · exact q1 h
  · rcases (m x).mp hx with rfl | h
    · rintro rfl; exact q8 hy
    · exact q5 x h y hy
theorem insR_nd (m : ∀ x, x ∈ ws1 ↔ x = b ∨ x ∈ wr) (n1 : ws1.Nodup) (nd : (a :: (wl ++ wr)).Nodup) (hb : b ∉ a :: (wl ++ wr)) : (a :: (wl ++ ws1)).Nodup ∧ ∀ x, x ∈ a :: (wl ++ ws1) ↔ x = b ∨ x ∈ a :: (wl ++ wr) := by
  simp only [List.nodup_cons, List.nodup_append, List.mem_append, List.mem_cons, not_or] at nd hb ⊢
  obtain ⟨⟨q1, q2⟩, q3, q4, q5⟩ := nd
  obtain ⟨q6, q7, q8⟩ := hb
  refine ⟨⟨⟨q1, fun h => ?_⟩, q3, n1, fun x hx y hy => ?_⟩, fun x => by simp only [m]; constructor <;> intro h <;> (rcases h with h | h | h | h) <;> simp [h]⟩
  · rcases (m a).mp h with h | h
    · exact q6 h.symm
    · exact q2 h
  · rcases (m y).mp hy with rfl | h
    · rintro rfl; exact q7 hx
    · exact q5 x hx y h
theorem rotL {a a2 : Addr} {wl2 wr2 wr : List Addr} : (a2 :: (wl2 ++ a :: (wr2 ++ wr))).Perm (a :: ((a2 :: (wl2 ++ wr2)) ++ wr)) := by
  have := List.perm_middle (a := a) (l₁ := a2 :: wl2) (l₂ := wr2 ++ wr); simpa using this
theorem rotR {a a2 : Addr} {wl2 wr2 wl : List Addr} : (a2 :: ((a :: (wl ++ wl2)) ++ wr2)).Perm (a :: (wl ++ (a2 :: (wl2 ++ wr2)))) := by
  have := (List.perm_middle (a := a2) (l₁ := a :: wl) (l₂ := wl2 ++ wr2)).symm; simpa using this
end T3
theorem ins0 {l : Launch} {Z : State} {a0 : Array Value} (hw : HW Z a0) {n0 : Nat} {h : Heap} (JS : List Addr) (sf nf : Addr → Int64) (J : JOK Z h JS sf nf) (v : Value) (js ws : List Addr) (hT : TR Z n0 JS h 0 v js ws) (b jn tn : Addr) (pn ln : Int64) (O_b : Ob Z h b "com/example/apportion/apportion/JobsByStart$Node" L_ND [.ref jn, .long pn, .ref tn, .long ln, .null, .null]) (hjn : jn ∈ JS) (htn : tn ∈ JS) (g_b : n0 ≤ b) (hbw : b ∉ ws) (hnd : ws.Nodup) (hso : js.Pairwise (lt sf nf)) (hcmp : ∀ x ∈ js, lt sf nf jn x ∨ lt sf nf x jn) : OMet l (⟨"com/example/apportion/apportion/JobsByStart", "insert", "(Lcom/example/apportion/apportion/JobsByStart$Node;Lcom/example/apportion/apportion/JobsByStart$Node;)Lcom/example/apportion/apportion/JobsByStart$Node;"⟩ : MethodName) Bi0 Z n0 #[v, (.ref b)] h (fun r h' => InsP Z n0 JS sf nf h h' 0 b jn js ws r) := by
  obtain ⟨rfl, rfl, rfl⟩ := hT
  exact ins0_n hw JS sf nf J b jn tn pn ln O_b hjn htn g_b
theorem ins1_r {l : Launch} {Z : State} {a0 : Array Value} (hw : HW Z a0) {n0 : Nat} {h : Heap} (JS : List Addr) (sf nf : Addr → Int64) (J : JOK Z h JS sf nf) (a : Addr) (js ws : List Addr) (hT : TR Z n0 JS h (0 + 1) (.ref a) js ws) (b jn tn : Addr) (pn ln : Int64) (O_b : Ob Z h b "com/example/apportion/apportion/JobsByStart$Node" L_ND [.ref jn, .long pn, .ref tn, .long ln, .null, .null]) (hjn : jn ∈ JS) (htn : tn ∈ JS) (g_b : n0 ≤ b) (hbw : b ∉ ws) (hnd : ws.Nodup) (hso : js.Pairwise (lt sf nf)) (hcmp : ∀ x ∈ js, lt sf nf jn x ∨ lt sf nf x jn) : OMet l (⟨"com/example/apportion/apportion/JobsByStart", "insert", "(Lcom/example/apportion/apportion/JobsByStart$Node;Lcom/example/apportion/apportion/JobsByStart$Node;)Lcom/example/apportion/apportion/JobsByStart$Node;"⟩ : MethodName) Bi1 Z n0 #[(.ref a), (.ref b)] h (fun r h' => InsP Z n0 JS sf nf h h' 1 b jn js ws r) := by
  refine OMet.of_wp (ls0 := #[.val (.ref a), .val (.ref b), .unset]) pl16 rfl rfl (fun m => own_entry 1 rfl rfl) ?_
  rw [TR_succ] at hT
  rcases hT with ⟨h0, -⟩ | ⟨a', j, t, p, le, lv, rv, jl, jr, wl, wr, ha, O_a, hj, ht, g_a, T_l, T_r, rfl, rfl⟩
  · cases h0
  cases ha
  have hr_lv := T_l.isRef
  have hr_rv := T_r.isRef
  have n_b_a : b ≠ a := fun q => hbw (by simp [q])
  have n_b_wl : b ∉ wl := fun q => hbw (by simp [q])
  have n_b_wr : b ∉ wr := fun q => hbw (by simp [q])
  have hn' := List.nodup_cons.mp hnd
  have n_a_wl : a ∉ wl := fun q => hn'.1 (by simp [q])
  have n_a_wr : a ∉ wr := fun q => hn'.1 (by simp [q])
  obtain ⟨nd_l, nd_r, nd_lr⟩ := List.nodup_append.mp hn'.2
  obtain ⟨so_l, so_jr, so_x⟩ := List.pairwise_append.mp hso
  obtain ⟨so_j, so_r⟩ := List.pairwise_cons.mp so_jr
  have hcj := hcmp j (by simp)
  have m_a : a ∈ b :: a :: (wl ++ wr) := by simp
  have KE : Keep h h (b :: a :: (wl ++ wr)) := Keep.refl _ _
  refine WP.aloadN d16_0 rfl rfl (pc' := 1) rfl ?_
  refine WP.ifnonnullY d16_1 (pc' := 6) (by decide) ?_
  refine WP.aloadN d16_6 rfl rfl (pc' := 7) rfl ?_
  refine WP.getf (i := 0) (v := (.ref jn)) d16_7 (w131 hw) O_b rfl rfl (pc' := 10) rfl ?_
  refine WP.aloadN d16_10 rfl rfl (pc' := 11) rfl ?_
  refine WP.getf (i := 0) (v := (.ref j)) d16_11 (w131 hw) O_a rfl rfl (pc' := 14) rfl ?_
  refine WP.callS (y := (⟨"com/example/apportion/apportion/JobsByStart", "precedes", "(Lcom/example/apportion/apportion/GridJob;Lcom/example/apportion/apportion/GridJob;)Z"⟩ : MethodName)) (By := B17) (as := [(.ref jn), (.ref j)]) (rest := []) d16_14 (w132 hw) (w133 hw) (w2 hw) (w134 hw) (by decide) (pre_met hw jn j _ _ _ _ (J jn hjn) (J j hj)) pd_8 rfl rfl rfl (by decide) (Nat.le_of_ble_eq_true rfl) (by decide) (by decide) (pc' := 17) rfl ?_
  rintro _ _ ⟨rfl, rp, rfl, hrp⟩
  show WP _ _ _ _ _ _ _ _ _ _ [(.int rp)]
  refine WP.ifEq d16_17 (tgt := 74) (by decide) (pc' := 20) rfl (fun c17 => ?_) (fun c17 => ?_)
  ·
    have hq : lt sf nf j jn := by unfold lt at *; omega
    refine WP.aloadN d16_74 rfl rfl (pc' := 75) rfl ?_
    refine WP.aloadN d16_75 rfl rfl (pc' := 76) rfl ?_
    refine WP.getf (i := 5) (v := rv) d16_76 (w154 hw) O_a rfl rfl (pc' := 79) rfl ?_
    refine WP.aloadN d16_79 rfl rfl (pc' := 80) rfl ?_
    refine WP.callS (y := (⟨"com/example/apportion/apportion/JobsByStart", "insert", "(Lcom/example/apportion/apportion/JobsByStart$Node;Lcom/example/apportion/apportion/JobsByStart$Node;)Lcom/example/apportion/apportion/JobsByStart$Node;"⟩ : MethodName)) (By := Bi0) (as := [rv, (.ref b)]) (rest := [(.ref a)]) d16_80 (w128 hw) (w129 hw) (w2 hw) (w130 hw) (by decide) (ins0 hw JS sf nf J rv jr wr T_r b jn tn pn ln O_b hjn htn g_b n_b_wr nd_r so_r (fun x hx => hcmp x (by simp [hx]))) pd_9 rfl rfl rfl (by decide) (Nat.le_of_ble_eq_true rfl) (by decide) (by decide) (pc' := 83) rfl ?_
    rintro _ h2 ⟨v1, js1, ws1, rfl, hv1, T1, so1, mj1, nd1, mw1, Kc⟩
    have mw1' : ∀ x ∈ ws1, x ∈ b :: a :: (wl ++ wr) := fun x hx => by rcases (mw1 x).mp hx with rfl | q <;> simp [*]
    have Eo : ∀ x ∈ b :: wr, Exa Z h x "com/example/apportion/apportion/JobsByStart$Node" := fun x hx => by rcases List.mem_cons.mp hx with rfl | q; exact O_b.1; exact (T_r.nodes x q).1
    replace KE := KE.trans Kc (fun x hx => Or.inl (by rcases List.mem_cons.mp hx with rfl | q <;> simp [*]))
    replace J := J.keep Kc (J.offs Eo)
    replace O_a := O_a.keep Kc (by simp only [List.mem_cons, not_or]; exact ⟨Ne.symm n_b_a, n_a_wr⟩)
    replace T_l := T_l.keep Kc (fun x hx q => by rcases List.mem_cons.mp q with rfl | q; exact n_b_wl hx; exact nd_lr x hx x q rfl)
    have n_a_ws1 : a ∉ ws1 := fun q => by rcases (mw1 a).mp q with q | q; exact n_b_a q.symm; exact n_a_wr q
    have n_w_w : ∀ x ∈ ws1, x ∉ wl := fun x hx q => by rcases (mw1 x).mp hx with rfl | k; exact n_b_wl q; exact nd_lr x q x k rfl
    rw [TR_succ] at T1
    rcases T1 with ⟨q, -⟩ | ⟨a2, j2, t2, p2, le2, lv2, rv2, jl2, jr2, wl2, wr2, rfl, O_a2, hj2, ht2, g_a2, T_l2, T_r2, rfl, rfl⟩
    · exact absurd q hv1
    have hr_lv2 := T_l2.isRef
    have hr_rv2 := T_r2.isRef
    have m_a2 : a2 ∈ b :: a :: (wl ++ wr) := mw1' a2 (by simp)
    have n_a_a2 : a ≠ a2 := fun q => n_a_ws1 (by simp [q])
    have n_a_wl2 : a ∉ wl2 := fun q => n_a_ws1 (by simp [q])
    have n_a_wr2 : a ∉ wr2 := fun q => n_a_ws1 (by simp [q])
    have hn2 := List.nodup_cons.mp nd1
    have n_a2_wl2 : a2 ∉ wl2 := fun q => hn2.1 (by simp [q])
    have n_a2_wr2 : a2 ∉ wr2 := fun q => hn2.1 (by simp [q])
    have n_a2_wl : a2 ∉ wl := n_w_w a2 (by simp)
    show WP _ _ _ _ _ _ _ _ _ _ [(.ref a2), (.ref a)]
    refine WP.putf (i := 5) d16_83 (w154 hw) O_a (lay_ND hw) (by decide) rfl (Or.inl (w155 hw)) (w105 hw) (t := (.object "com/example/apportion/apportion/JobsByStart$Node")) (by decide) rfl rfl g_a (pc' := 86) rfl ?_
    intro h3 K4 O_n
    replace KE := KE.trans K4 (own_all (Or.inl m_a) own_all0)
    replace J := J.keep K4 (fun z hz => (own_cons (J.off hz O_a.1) own_nil))
    replace T_l2 := T_l2.keep K4 (fun z hz => (own_cons (fun q => n_a_wl2 (q ▸ hz)) own_nil))
    replace T_r2 := T_r2.keep K4 (fun z hz => (own_cons (fun q => n_a_wr2 (q ▸ hz)) own_nil))
    replace T_l := T_l.keep K4 (fun z hz => (own_cons (fun q => n_a_wl (q ▸ hz)) own_nil))
    replace O_a2 := O_a2.keep K4 (own_cons (by first | assumption | exact Ne.symm (by assumption) | exact Nat.ne_of_lt (by assumption) | exact Nat.ne_of_gt (by assumption)) own_nil)
    replace O_a : Ob Z h3 a "com/example/apportion/apportion/JobsByStart$Node" L_ND [(.ref j), (.long p), (.ref t), (.long le), lv, (.ref a2)] := O_n
    clear O_n
    refine WP.aloadN d16_86 rfl rfl (pc' := 87) rfl ?_
    refine WP.getf (i := 5) (v := (.ref a2)) d16_87 (w154 hw) O_a rfl rfl (pc' := 90) rfl ?_
    refine WP.getf (i := 1) (v := (.long p2)) d16_90 (w138 hw) O_a2 rfl rfl (pc' := 93) rfl ?_
    refine WP.aloadN d16_93 rfl rfl (pc' := 94) rfl ?_
    refine WP.getf (i := 1) (v := (.long p)) d16_94 (w138 hw) O_a rfl rfl (pc' := 97) rfl ?_
    refine WP.lcmpLe d16_97 rfl d16_98 (tgt := 125) (by decide) (pc' := 101) rfl (fun c97 => ?_) (fun c97 => ?_)
    ·
      refine WP.aloadN d16_125 rfl rfl (pc' := 126) rfl ?_
      refine WP.callS (y := (⟨"com/example/apportion/apportion/JobsByStart", "pull", "(Lcom/example/apportion/apportion/JobsByStart$Node;)V"⟩ : MethodName)) (By := B18) (as := [(.ref a)]) (rest := []) d16_126 (w139 hw) (w140 hw) (w2 hw) (w141 hw) (by decide) (pul_met hw JS sf nf J a j t p le lv (.ref a2) g_a hj O_a T_l.ch (Or.inr ⟨a2, j2, t2, p2, le2, lv2, rv2, rfl, O_a2, ht2⟩)) pd_10 rfl rfl rfl (by decide) (Nat.le_of_ble_eq_true rfl) (by decide) (by decide) (pc' := 129) rfl ?_
      rintro _ h6 ⟨rfl, Kp, le_5, O_n⟩
      replace KE := KE.trans Kp (own_all (Or.inl m_a) own_all0)
      replace J := J.keep Kp (fun z hz => (own_cons (J.off hz O_a.1) own_nil))
      replace T_l2 := T_l2.keep Kp (fun z hz => (own_cons (fun q => n_a_wl2 (q ▸ hz)) own_nil))
      replace T_r2 := T_r2.keep Kp (fun z hz => (own_cons (fun q => n_a_wr2 (q ▸ hz)) own_nil))
      replace T_l := T_l.keep Kp (fun z hz => (own_cons (fun q => n_a_wl (q ▸ hz)) own_nil))
      replace O_a2 := O_a2.keep Kp (own_cons (by first | assumption | exact Ne.symm (by assumption) | exact Nat.ne_of_lt (by assumption) | exact Nat.ne_of_gt (by assumption)) own_nil)
      replace O_a := O_n
      show WP _ _ _ _ _ _ _ _ _ _ []
      refine WP.aloadN d16_129 rfl rfl (pc' := 130) rfl ?_
      exact WP.retA d16_130 rfl rfl rfl (by decide) (by decide) (have S := insR_so mj1 so1 hso hq; have N := insR_nd mw1 nd1 hnd hbw; ⟨_, _, _, rfl, nofun, Or.inr ⟨a, j, j, p, le_5, lv, (.ref a2), _, _, _, _, rfl, O_a, hj, hj, g_a, T_l.up, (Or.inr ⟨a2, j2, t2, p2, le2, lv2, rv2, _, _, _, _, rfl, O_a2, hj2, ht2, g_a2, T_l2, T_r2, rfl, rfl⟩), rfl, rfl⟩, S.1, S.2, N.1, N.2, KE⟩)
    refine WP.aloadN d16_101 rfl rfl (pc' := 102) rfl ?_
    refine WP.getf (i := 5) (v := (.ref a2)) d16_102 (w154 hw) O_a rfl rfl (pc' := 105) rfl ?_
    refine WP.astoreN d16_105 (pc' := 106) rfl rfl (ls' := #[.val (.ref a), .val (.ref b), .val (.ref a2)]) rfl ?_
    refine WP.aloadN d16_106 rfl rfl (pc' := 107) rfl ?_
    refine WP.aloadN d16_107 rfl rfl (pc' := 108) rfl ?_
    refine WP.getf (i := 4) (v := lv2) d16_108 (w136 hw) O_a2 rfl rfl (pc' := 111) rfl ?_
    refine WP.putf (i := 5) d16_111 (w154 hw) O_a (lay_ND hw) (by decide) rfl (Or.inl (w155 hw)) (w105 hw) (t := (.object "com/example/apportion/apportion/JobsByStart$Node")) (by decide) (own_narR hr_lv2) (own_fitR hr_lv2) g_a (pc' := 114) rfl ?_
    intro h7 K8 O_n
    replace KE := KE.trans K8 (own_all (Or.inl m_a) own_all0)
    replace J := J.keep K8 (fun z hz => (own_cons (J.off hz O_a.1) own_nil))
    replace T_l2 := T_l2.keep K8 (fun z hz => (own_cons (fun q => n_a_wl2 (q ▸ hz)) own_nil))
    replace T_r2 := T_r2.keep K8 (fun z hz => (own_cons (fun q => n_a_wr2 (q ▸ hz)) own_nil))
    replace T_l := T_l.keep K8 (fun z hz => (own_cons (fun q => n_a_wl (q ▸ hz)) own_nil))
    replace O_a2 := O_a2.keep K8 (own_cons (by first | assumption | exact Ne.symm (by assumption) | exact Nat.ne_of_lt (by assumption) | exact Nat.ne_of_gt (by assumption)) own_nil)
    replace O_a : Ob Z h7 a "com/example/apportion/apportion/JobsByStart$Node" L_ND [(.ref j), (.long p), (.ref t), (.long le), lv, lv2] := O_n
    clear O_n
    refine WP.aloadN d16_114 rfl rfl (pc' := 115) rfl ?_
    refine WP.callS (y := (⟨"com/example/apportion/apportion/JobsByStart", "pull", "(Lcom/example/apportion/apportion/JobsByStart$Node;)V"⟩ : MethodName)) (By := B18) (as := [(.ref a)]) (rest := []) d16_115 (w139 hw) (w140 hw) (w2 hw) (w141 hw) (by decide) (pul_met hw JS sf nf J a j t p le lv lv2 g_a hj O_a T_l.ch T_l2.ch) pd_10 rfl rfl rfl (by decide) (Nat.le_of_ble_eq_true rfl) (by decide) (by decide) (pc' := 118) rfl ?_
    rintro _ h10 ⟨rfl, Kp, le_9, O_n⟩
    replace KE := KE.trans Kp (own_all (Or.inl m_a) own_all0)
    replace J := J.keep Kp (fun z hz => (own_cons (J.off hz O_a.1) own_nil))
    replace T_l2 := T_l2.keep Kp (fun z hz => (own_cons (fun q => n_a_wl2 (q ▸ hz)) own_nil))
    replace T_r2 := T_r2.keep Kp (fun z hz => (own_cons (fun q => n_a_wr2 (q ▸ hz)) own_nil))
    replace T_l := T_l.keep Kp (fun z hz => (own_cons (fun q => n_a_wl (q ▸ hz)) own_nil))
    replace O_a2 := O_a2.keep Kp (own_cons (by first | assumption | exact Ne.symm (by assumption) | exact Nat.ne_of_lt (by assumption) | exact Nat.ne_of_gt (by assumption)) own_nil)
    replace O_a := O_n
    show WP _ _ _ _ _ _ _ _ _ _ []
    refine WP.aloadN d16_118 rfl rfl (pc' := 119) rfl ?_
    refine WP.aloadN d16_119 rfl rfl (pc' := 120) rfl ?_
    refine WP.putf (i := 4) d16_120 (w136 hw) O_a2 (lay_ND hw) (by decide) rfl (Or.inl (w137 hw)) (w105 hw) (t := (.object "com/example/apportion/apportion/JobsByStart$Node")) (by decide) rfl rfl g_a2 (pc' := 123) rfl ?_
    intro h11 K12 O_n
    replace KE := KE.trans K12 (own_all (Or.inl m_a2) own_all0)
    replace J := J.keep K12 (fun z hz => (own_cons (J.off hz O_a2.1) own_nil))
    replace T_l2 := T_l2.keep K12 (fun z hz => (own_cons (fun q => n_a2_wl2 (q ▸ hz)) own_nil))
    replace T_r2 := T_r2.keep K12 (fun z hz => (own_cons (fun q => n_a2_wr2 (q ▸ hz)) own_nil))
    replace T_l := T_l.keep K12 (fun z hz => (own_cons (fun q => n_a2_wl (q ▸ hz)) own_nil))
    replace O_a := O_a.keep K12 (own_cons (by first | assumption | exact Ne.symm (by assumption) | exact Nat.ne_of_lt (by assumption) | exact Nat.ne_of_gt (by assumption)) own_nil)
    replace O_a2 : Ob Z h11 a2 "com/example/apportion/apportion/JobsByStart$Node" L_ND [(.ref j2), (.long p2), (.ref t2), (.long le2), (.ref a), rv2] := O_n
    clear O_n
    refine WP.aloadN d16_123 rfl rfl (pc' := 124) rfl ?_
    refine WP.astoreN d16_124 (pc' := 125) rfl rfl (ls' := #[.val (.ref a2), .val (.ref b), .val (.ref a2)]) rfl ?_
    refine WP.aloadN d16_125 rfl rfl (pc' := 126) rfl ?_
    refine WP.callS (y := (⟨"com/example/apportion/apportion/JobsByStart", "pull", "(Lcom/example/apportion/apportion/JobsByStart$Node;)V"⟩ : MethodName)) (By := B18) (as := [(.ref a2)]) (rest := []) d16_126 (w139 hw) (w140 hw) (w2 hw) (w141 hw) (by decide) (pul_met hw JS sf nf J a2 j2 t2 p2 le2 (.ref a) rv2 g_a2 hj2 O_a2 (Or.inr ⟨a, j, j, p, le_9, lv, lv2, rfl, O_a, hj⟩) T_r2.ch) pd_10 rfl rfl rfl (by decide) (Nat.le_of_ble_eq_true rfl) (by decide) (by decide) (pc' := 129) rfl ?_
    rintro _ h14 ⟨rfl, Kp, le_13, O_n⟩
    replace KE := KE.trans Kp (own_all (Or.inl m_a2) own_all0)
    replace J := J.keep Kp (fun z hz => (own_cons (J.off hz O_a2.1) own_nil))
    replace T_l2 := T_l2.keep Kp (fun z hz => (own_cons (fun q => n_a2_wl2 (q ▸ hz)) own_nil))
    replace T_r2 := T_r2.keep Kp (fun z hz => (own_cons (fun q => n_a2_wr2 (q ▸ hz)) own_nil))
    replace T_l := T_l.keep Kp (fun z hz => (own_cons (fun q => n_a2_wl (q ▸ hz)) own_nil))
    replace O_a := O_a.keep Kp (own_cons (by first | assumption | exact Ne.symm (by assumption) | exact Nat.ne_of_lt (by assumption) | exact Nat.ne_of_gt (by assumption)) own_nil)
    replace O_a2 := O_n
    show WP _ _ _ _ _ _ _ _ _ _ []
    refine WP.aloadN d16_129 rfl rfl (pc' := 130) rfl ?_
    exact WP.retA d16_130 rfl rfl rfl (by decide) (by decide) (have S := insR_so mj1 so1 hso hq; have N := insR_nd mw1 nd1 hnd hbw; ⟨_, _, _, rfl, nofun, Or.inr ⟨a2, j2, j2, p2, le_13, (.ref a), rv2, _, _, _, _, rfl, O_a2, hj2, hj2, g_a2, (Or.inr ⟨a, j, j, p, le_9, lv, lv2, _, _, _, _, rfl, O_a, hj, hj, g_a, T_l, T_l2, rfl, rfl⟩), T_r2.up, (by simp), rfl⟩, S.1, S.2, rotR.nodup_iff.mpr N.1, fun x => rotR.mem_iff.trans (N.2 x), KE⟩)
  have hq : lt sf nf jn j := by unfold lt at *; omega
  refine WP.aloadN d16_20 rfl rfl (pc' := 21) rfl ?_
  refine WP.aloadN d16_21 rfl rfl (pc' := 22) rfl ?_
  refine WP.getf (i := 4) (v := lv) d16_22 (w136 hw) O_a rfl rfl (pc' := 25) rfl ?_
  refine WP.aloadN d16_25 rfl rfl (pc' := 26) rfl ?_
  refine WP.callS (y := (⟨"com/example/apportion/apportion/JobsByStart", "insert", "(Lcom/example/apportion/apportion/JobsByStart$Node;Lcom/example/apportion/apportion/JobsByStart$Node;)Lcom/example/apportion/apportion/JobsByStart$Node;"⟩ : MethodName)) (By := Bi0) (as := [lv, (.ref b)]) (rest := [(.ref a)]) d16_26 (w128 hw) (w129 hw) (w2 hw) (w130 hw) (by decide) (ins0 hw JS sf nf J lv jl wl T_l b jn tn pn ln O_b hjn htn g_b n_b_wl nd_l so_l (fun x hx => hcmp x (by simp [hx]))) pd_9 rfl rfl rfl (by decide) (Nat.le_of_ble_eq_true rfl) (by decide) (by decide) (pc' := 29) rfl ?_
  rintro _ h15 ⟨v1, js1, ws1, rfl, hv1, T1, so1, mj1, nd1, mw1, Kc⟩
  have mw1' : ∀ x ∈ ws1, x ∈ b :: a :: (wl ++ wr) := fun x hx => by rcases (mw1 x).mp hx with rfl | q <;> simp [*]
  have Eo : ∀ x ∈ b :: wl, Exa Z h x "com/example/apportion/apportion/JobsByStart$Node" := fun x hx => by rcases List.mem_cons.mp hx with rfl | q; exact O_b.1; exact (T_l.nodes x q).1
  replace KE := KE.trans Kc (fun x hx => Or.inl (by rcases List.mem_cons.mp hx with rfl | q <;> simp [*]))
  replace J := J.keep Kc (J.offs Eo)
  replace O_a := O_a.keep Kc (by simp only [List.mem_cons, not_or]; exact ⟨Ne.symm n_b_a, n_a_wl⟩)
  replace T_r := T_r.keep Kc (fun x hx q => by rcases List.mem_cons.mp q with rfl | q; exact n_b_wr hx; exact nd_lr x q x hx rfl)
  have n_a_ws1 : a ∉ ws1 := fun q => by rcases (mw1 a).mp q with q | q; exact n_b_a q.symm; exact n_a_wl q
  have n_w_w : ∀ x ∈ ws1, x ∉ wr := fun x hx q => by rcases (mw1 x).mp hx with rfl | k; exact n_b_wr q; exact nd_lr x k x q rfl
  rw [TR_succ] at T1
  rcases T1 with ⟨q, -⟩ | ⟨a2, j2, t2, p2, le2, lv2, rv2, jl2, jr2, wl2, wr2, rfl, O_a2, hj2, ht2, g_a2, T_l2, T_r2, rfl, rfl⟩
  · exact absurd q hv1
  have hr_lv2 := T_l2.isRef
  have hr_rv2 := T_r2.isRef
  have m_a2 : a2 ∈ b :: a :: (wl ++ wr) := mw1' a2 (by simp)
  have n_a_a2 : a ≠ a2 := fun q => n_a_ws1 (by simp [q])
  have n_a_wl2 : a ∉ wl2 := fun q => n_a_ws1 (by simp [q])
  have n_a_wr2 : a ∉ wr2 := fun q => n_a_ws1 (by simp [q])
  have hn2 := List.nodup_cons.mp nd1
  have n_a2_wl2 : a2 ∉ wl2 := fun q => hn2.1 (by simp [q])
  have n_a2_wr2 : a2 ∉ wr2 := fun q => hn2.1 (by simp [q])
  have n_a2_wr : a2 ∉ wr := n_w_w a2 (by simp)
  show WP _ _ _ _ _ _ _ _ _ _ [(.ref a2), (.ref a)]
  refine WP.putf (i := 4) d16_29 (w136 hw) O_a (lay_ND hw) (by decide) rfl (Or.inl (w137 hw)) (w105 hw) (t := (.object "com/example/apportion/apportion/JobsByStart$Node")) (by decide) rfl rfl g_a (pc' := 32) rfl ?_
  intro h16 K17 O_n
  replace KE := KE.trans K17 (own_all (Or.inl m_a) own_all0)
  replace J := J.keep K17 (fun z hz => (own_cons (J.off hz O_a.1) own_nil))
  replace T_l2 := T_l2.keep K17 (fun z hz => (own_cons (fun q => n_a_wl2 (q ▸ hz)) own_nil))
  replace T_r2 := T_r2.keep K17 (fun z hz => (own_cons (fun q => n_a_wr2 (q ▸ hz)) own_nil))
  replace T_r := T_r.keep K17 (fun z hz => (own_cons (fun q => n_a_wr (q ▸ hz)) own_nil))
  replace O_a2 := O_a2.keep K17 (own_cons (by first | assumption | exact Ne.symm (by assumption) | exact Nat.ne_of_lt (by assumption) | exact Nat.ne_of_gt (by assumption)) own_nil)
  replace O_a : Ob Z h16 a "com/example/apportion/apportion/JobsByStart$Node" L_ND [(.ref j), (.long p), (.ref t), (.long le), (.ref a2), rv] := O_n
  clear O_n
  refine WP.aloadN d16_32 rfl rfl (pc' := 33) rfl ?_
  refine WP.getf (i := 4) (v := (.ref a2)) d16_33 (w136 hw) O_a rfl rfl (pc' := 36) rfl ?_
  refine WP.getf (i := 1) (v := (.long p2)) d16_36 (w138 hw) O_a2 rfl rfl (pc' := 39) rfl ?_
  refine WP.aloadN d16_39 rfl rfl (pc' := 40) rfl ?_
  refine WP.getf (i := 1) (v := (.long p)) d16_40 (w138 hw) O_a rfl rfl (pc' := 43) rfl ?_
  refine WP.lcmpLe d16_43 rfl d16_44 (tgt := 125) (by decide) (pc' := 47) rfl (fun c43 => ?_) (fun c43 => ?_)
  ·
    refine WP.aloadN d16_125 rfl rfl (pc' := 126) rfl ?_
    refine WP.callS (y := (⟨"com/example/apportion/apportion/JobsByStart", "pull", "(Lcom/example/apportion/apportion/JobsByStart$Node;)V"⟩ : MethodName)) (By := B18) (as := [(.ref a)]) (rest := []) d16_126 (w139 hw) (w140 hw) (w2 hw) (w141 hw) (by decide) (pul_met hw JS sf nf J a j t p le (.ref a2) rv g_a hj O_a (Or.inr ⟨a2, j2, t2, p2, le2, lv2, rv2, rfl, O_a2, ht2⟩) T_r.ch) pd_10 rfl rfl rfl (by decide) (Nat.le_of_ble_eq_true rfl) (by decide) (by decide) (pc' := 129) rfl ?_
    rintro _ h19 ⟨rfl, Kp, le_18, O_n⟩
    replace KE := KE.trans Kp (own_all (Or.inl m_a) own_all0)
    replace J := J.keep Kp (fun z hz => (own_cons (J.off hz O_a.1) own_nil))
    replace T_l2 := T_l2.keep Kp (fun z hz => (own_cons (fun q => n_a_wl2 (q ▸ hz)) own_nil))
    replace T_r2 := T_r2.keep Kp (fun z hz => (own_cons (fun q => n_a_wr2 (q ▸ hz)) own_nil))
    replace T_r := T_r.keep Kp (fun z hz => (own_cons (fun q => n_a_wr (q ▸ hz)) own_nil))
    replace O_a2 := O_a2.keep Kp (own_cons (by first | assumption | exact Ne.symm (by assumption) | exact Nat.ne_of_lt (by assumption) | exact Nat.ne_of_gt (by assumption)) own_nil)
    replace O_a := O_n
    show WP _ _ _ _ _ _ _ _ _ _ []
    refine WP.aloadN d16_129 rfl rfl (pc' := 130) rfl ?_
    exact WP.retA d16_130 rfl rfl rfl (by decide) (by decide) (have S := insL_so mj1 so1 hso hq; have N := insL_nd mw1 nd1 hnd hbw; ⟨_, _, _, rfl, nofun, Or.inr ⟨a, j, j, p, le_18, (.ref a2), rv, _, _, _, _, rfl, O_a, hj, hj, g_a, (Or.inr ⟨a2, j2, t2, p2, le2, lv2, rv2, _, _, _, _, rfl, O_a2, hj2, ht2, g_a2, T_l2, T_r2, rfl, rfl⟩), T_r.up, rfl, rfl⟩, S.1, S.2, N.1, N.2, KE⟩)
  refine WP.aloadN d16_47 rfl rfl (pc' := 48) rfl ?_
  refine WP.getf (i := 4) (v := (.ref a2)) d16_48 (w136 hw) O_a rfl rfl (pc' := 51) rfl ?_
  refine WP.astoreN d16_51 (pc' := 52) rfl rfl (ls' := #[.val (.ref a), .val (.ref b), .val (.ref a2)]) rfl ?_
  refine WP.aloadN d16_52 rfl rfl (pc' := 53) rfl ?_
  refine WP.aloadN d16_53 rfl rfl (pc' := 54) rfl ?_
  refine WP.getf (i := 5) (v := rv2) d16_54 (w154 hw) O_a2 rfl rfl (pc' := 57) rfl ?_
  refine WP.putf (i := 4) d16_57 (w136 hw) O_a (lay_ND hw) (by decide) rfl (Or.inl (w137 hw)) (w105 hw) (t := (.object "com/example/apportion/apportion/JobsByStart$Node")) (by decide) (own_narR hr_rv2) (own_fitR hr_rv2) g_a (pc' := 60) rfl ?_
  intro h20 K21 O_n
  replace KE := KE.trans K21 (own_all (Or.inl m_a) own_all0)
  replace J := J.keep K21 (fun z hz => (own_cons (J.off hz O_a.1) own_nil))
  replace T_l2 := T_l2.keep K21 (fun z hz => (own_cons (fun q => n_a_wl2 (q ▸ hz)) own_nil))
  replace T_r2 := T_r2.keep K21 (fun z hz => (own_cons (fun q => n_a_wr2 (q ▸ hz)) own_nil))
  replace T_r := T_r.keep K21 (fun z hz => (own_cons (fun q => n_a_wr (q ▸ hz)) own_nil))
  replace O_a2 := O_a2.keep K21 (own_cons (by first | assumption | exact Ne.symm (by assumption) | exact Nat.ne_of_lt (by assumption) | exact Nat.ne_of_gt (by assumption)) own_nil)
  replace O_a : Ob Z h20 a "com/example/apportion/apportion/JobsByStart$Node" L_ND [(.ref j), (.long p), (.ref t), (.long le), rv2, rv] := O_n
  clear O_n
  refine WP.aloadN d16_60 rfl rfl (pc' := 61) rfl ?_
  refine WP.callS (y := (⟨"com/example/apportion/apportion/JobsByStart", "pull", "(Lcom/example/apportion/apportion/JobsByStart$Node;)V"⟩ : MethodName)) (By := B18) (as := [(.ref a)]) (rest := []) d16_61 (w139 hw) (w140 hw) (w2 hw) (w141 hw) (by decide) (pul_met hw JS sf nf J a j t p le rv2 rv g_a hj O_a T_r2.ch T_r.ch) pd_10 rfl rfl rfl (by decide) (Nat.le_of_ble_eq_true rfl) (by decide) (by decide) (pc' := 64) rfl ?_
  rintro _ h23 ⟨rfl, Kp, le_22, O_n⟩
  replace KE := KE.trans Kp (own_all (Or.inl m_a) own_all0)
  replace J := J.keep Kp (fun z hz => (own_cons (J.off hz O_a.1) own_nil))
  replace T_l2 := T_l2.keep Kp (fun z hz => (own_cons (fun q => n_a_wl2 (q ▸ hz)) own_nil))
  replace T_r2 := T_r2.keep Kp (fun z hz => (own_cons (fun q => n_a_wr2 (q ▸ hz)) own_nil))
  replace T_r := T_r.keep Kp (fun z hz => (own_cons (fun q => n_a_wr (q ▸ hz)) own_nil))
  replace O_a2 := O_a2.keep Kp (own_cons (by first | assumption | exact Ne.symm (by assumption) | exact Nat.ne_of_lt (by assumption) | exact Nat.ne_of_gt (by assumption)) own_nil)
  replace O_a := O_n
  show WP _ _ _ _ _ _ _ _ _ _ []
  refine WP.aloadN d16_64 rfl rfl (pc' := 65) rfl ?_
  refine WP.aloadN d16_65 rfl rfl (pc' := 66) rfl ?_
  refine WP.putf (i := 5) d16_66 (w154 hw) O_a2 (lay_ND hw) (by decide) rfl (Or.inl (w155 hw)) (w105 hw) (t := (.object "com/example/apportion/apportion/JobsByStart$Node")) (by decide) rfl rfl g_a2 (pc' := 69) rfl ?_
  intro h24 K25 O_n
  replace KE := KE.trans K25 (own_all (Or.inl m_a2) own_all0)
  replace J := J.keep K25 (fun z hz => (own_cons (J.off hz O_a2.1) own_nil))
  replace T_l2 := T_l2.keep K25 (fun z hz => (own_cons (fun q => n_a2_wl2 (q ▸ hz)) own_nil))
  replace T_r2 := T_r2.keep K25 (fun z hz => (own_cons (fun q => n_a2_wr2 (q ▸ hz)) own_nil))
  replace T_r := T_r.keep K25 (fun z hz => (own_cons (fun q => n_a2_wr (q ▸ hz)) own_nil))
  replace O_a := O_a.keep K25 (own_cons (by first | assumption | exact Ne.symm (by assumption) | exact Nat.ne_of_lt (by assumption) | exact Nat.ne_of_gt (by assumption)) own_nil)
  replace O_a2 : Ob Z h24 a2 "com/example/apportion/apportion/JobsByStart$Node" L_ND [(.ref j2), (.long p2), (.ref t2), (.long le2), lv2, (.ref a)] := O_n
  clear O_n
  refine WP.aloadN d16_69 rfl rfl (pc' := 70) rfl ?_
  refine WP.astoreN d16_70 (pc' := 71) rfl rfl (ls' := #[.val (.ref a2), .val (.ref b), .val (.ref a2)]) rfl ?_
  refine WP.goto d16_71 (pc' := 125) (by decide) ?_
  refine WP.aloadN d16_125 rfl rfl (pc' := 126) rfl ?_
  refine WP.callS (y := (⟨"com/example/apportion/apportion/JobsByStart", "pull", "(Lcom/example/apportion/apportion/JobsByStart$Node;)V"⟩ : MethodName)) (By := B18) (as := [(.ref a2)]) (rest := []) d16_126 (w139 hw) (w140 hw) (w2 hw) (w141 hw) (by decide) (pul_met hw JS sf nf J a2 j2 t2 p2 le2 lv2 (.ref a) g_a2 hj2 O_a2 T_l2.ch (Or.inr ⟨a, j, j, p, le_22, rv2, rv, rfl, O_a, hj⟩)) pd_10 rfl rfl rfl (by decide) (Nat.le_of_ble_eq_true rfl) (by decide) (by decide) (pc' := 129) rfl ?_
  rintro _ h27 ⟨rfl, Kp, le_26, O_n⟩
  replace KE := KE.trans Kp (own_all (Or.inl m_a2) own_all0)
  replace J := J.keep Kp (fun z hz => (own_cons (J.off hz O_a2.1) own_nil))
  replace T_l2 := T_l2.keep Kp (fun z hz => (own_cons (fun q => n_a2_wl2 (q ▸ hz)) own_nil))
  replace T_r2 := T_r2.keep Kp (fun z hz => (own_cons (fun q => n_a2_wr2 (q ▸ hz)) own_nil))
  replace T_r := T_r.keep Kp (fun z hz => (own_cons (fun q => n_a2_wr (q ▸ hz)) own_nil))
  replace O_a := O_a.keep Kp (own_cons (by first | assumption | exact Ne.symm (by assumption) | exact Nat.ne_of_lt (by assumption) | exact Nat.ne_of_gt (by assumption)) own_nil)
  replace O_a2 := O_n
  show WP _ _ _ _ _ _ _ _ _ _ []
  refine WP.aloadN d16_129 rfl rfl (pc' := 130) rfl ?_
  exact WP.retA d16_130 rfl rfl rfl (by decide) (by decide) (have S := insL_so mj1 so1 hso hq; have N := insL_nd mw1 nd1 hnd hbw; ⟨_, _, _, rfl, nofun, Or.inr ⟨a2, j2, j2, p2, le_26, lv2, (.ref a), _, _, _, _, rfl, O_a2, hj2, hj2, g_a2, T_l2.up, (Or.inr ⟨a, j, j, p, le_22, rv2, rv, _, _, _, _, rfl, O_a, hj, hj, g_a, T_r2, T_r, rfl, rfl⟩), (by simp), rfl⟩, S.1, S.2, rotL.nodup_iff.mpr N.1, fun x => rotL.mem_iff.trans (N.2 x), KE⟩)
theorem ins1 {l : Launch} {Z : State} {a0 : Array Value} (hw : HW Z a0) {n0 : Nat} {h : Heap} (JS : List Addr) (sf nf : Addr → Int64) (J : JOK Z h JS sf nf) (v : Value) (js ws : List Addr) (hT : TR Z n0 JS h 1 v js ws) (b jn tn : Addr) (pn ln : Int64) (O_b : Ob Z h b "com/example/apportion/apportion/JobsByStart$Node" L_ND [.ref jn, .long pn, .ref tn, .long ln, .null, .null]) (hjn : jn ∈ JS) (htn : tn ∈ JS) (g_b : n0 ≤ b) (hbw : b ∉ ws) (hnd : ws.Nodup) (hso : js.Pairwise (lt sf nf)) (hcmp : ∀ x ∈ js, lt sf nf jn x ∨ lt sf nf x jn) : OMet l (⟨"com/example/apportion/apportion/JobsByStart", "insert", "(Lcom/example/apportion/apportion/JobsByStart$Node;Lcom/example/apportion/apportion/JobsByStart$Node;)Lcom/example/apportion/apportion/JobsByStart$Node;"⟩ : MethodName) Bi1 Z n0 #[v, (.ref b)] h (fun r h' => InsP Z n0 JS sf nf h h' 1 b jn js ws r) := by
  have hT' := hT
  rw [show 1 = 0 + 1 from rfl, TR_succ] at hT'
  rcases hT' with ⟨rfl, rfl, rfl⟩ | ⟨a, j, t, p, le, lv, rv, jl, jr, wl, wr, rfl, -⟩
  · exact ins1_n hw JS sf nf J b jn tn pn ln O_b hjn htn g_b
  · exact ins1_r hw JS sf nf J a js ws hT b jn tn pn ln O_b hjn htn g_b hbw hnd hso hcmp
theorem ins2_r {l : Launch} {Z : State} {a0 : Array Value} (hw : HW Z a0) {n0 : Nat} {h : Heap} (JS : List Addr) (sf nf : Addr → Int64) (J : JOK Z h JS sf nf) (a : Addr) (js ws : List Addr) (hT : TR Z n0 JS h (1 + 1) (.ref a) js ws) (b jn tn : Addr) (pn ln : Int64) (O_b : Ob Z h b "com/example/apportion/apportion/JobsByStart$Node" L_ND [.ref jn, .long pn, .ref tn, .long ln, .null, .null]) (hjn : jn ∈ JS) (htn : tn ∈ JS) (g_b : n0 ≤ b) (hbw : b ∉ ws) (hnd : ws.Nodup) (hso : js.Pairwise (lt sf nf)) (hcmp : ∀ x ∈ js, lt sf nf jn x ∨ lt sf nf x jn) : OMet l (⟨"com/example/apportion/apportion/JobsByStart", "insert", "(Lcom/example/apportion/apportion/JobsByStart$Node;Lcom/example/apportion/apportion/JobsByStart$Node;)Lcom/example/apportion/apportion/JobsByStart$Node;"⟩ : MethodName) Bi2 Z n0 #[(.ref a), (.ref b)] h (fun r h' => InsP Z n0 JS sf nf h h' 2 b jn js ws r) := by
  refine OMet.of_wp (ls0 := #[.val (.ref a), .val (.ref b), .unset]) pl16 rfl rfl (fun m => own_entry 1 rfl rfl) ?_
  rw [TR_succ] at hT
  rcases hT with ⟨h0, -⟩ | ⟨a', j, t, p, le, lv, rv, jl, jr, wl, wr, ha, O_a, hj, ht, g_a, T_l, T_r, rfl, rfl⟩
  · cases h0
  cases ha
  have hr_lv := T_l.isRef
  have hr_rv := T_r.isRef
  have n_b_a : b ≠ a := fun q => hbw (by simp [q])
  have n_b_wl : b ∉ wl := fun q => hbw (by simp [q])
  have n_b_wr : b ∉ wr := fun q => hbw (by simp [q])
  have hn' := List.nodup_cons.mp hnd
  have n_a_wl : a ∉ wl := fun q => hn'.1 (by simp [q])
  have n_a_wr : a ∉ wr := fun q => hn'.1 (by simp [q])
  obtain ⟨nd_l, nd_r, nd_lr⟩ := List.nodup_append.mp hn'.2
  obtain ⟨so_l, so_jr, so_x⟩ := List.pairwise_append.mp hso
  obtain ⟨so_j, so_r⟩ := List.pairwise_cons.mp so_jr
  have hcj := hcmp j (by simp)
  have m_a : a ∈ b :: a :: (wl ++ wr) := by simp
  have KE : Keep h h (b :: a :: (wl ++ wr)) := Keep.refl _ _
  refine WP.aloadN d16_0 rfl rfl (pc' := 1) rfl ?_
  refine WP.ifnonnullY d16_1 (pc' := 6) (by decide) ?_
  refine WP.aloadN d16_6 rfl rfl (pc' := 7) rfl ?_
  refine WP.getf (i := 0) (v := (.ref jn)) d16_7 (w131 hw) O_b rfl rfl (pc' := 10) rfl ?_
  refine WP.aloadN d16_10 rfl rfl (pc' := 11) rfl ?_
  refine WP.getf (i := 0) (v := (.ref j)) d16_11 (w131 hw) O_a rfl rfl (pc' := 14) rfl ?_
  refine WP.callS (y := (⟨"com/example/apportion/apportion/JobsByStart", "precedes", "(Lcom/example/apportion/apportion/GridJob;Lcom/example/apportion/apportion/GridJob;)Z"⟩ : MethodName)) (By := B17) (as := [(.ref jn), (.ref j)]) (rest := []) d16_14 (w132 hw) (w133 hw) (w2 hw) (w134 hw) (by decide) (pre_met hw jn j _ _ _ _ (J jn hjn) (J j hj)) pd_8 rfl rfl rfl (by decide) (Nat.le_of_ble_eq_true rfl) (by decide) (by decide) (pc' := 17) rfl ?_
  rintro _ _ ⟨rfl, rp, rfl, hrp⟩
  show WP _ _ _ _ _ _ _ _ _ _ [(.int rp)]
  refine WP.ifEq d16_17 (tgt := 74) (by decide) (pc' := 20) rfl (fun c17 => ?_) (fun c17 => ?_)
  ·
    have hq : lt sf nf j jn := by unfold lt at *; omega
    refine WP.aloadN d16_74 rfl rfl (pc' := 75) rfl ?_
    refine WP.aloadN d16_75 rfl rfl (pc' := 76) rfl ?_
    refine WP.getf (i := 5) (v := rv) d16_76 (w154 hw) O_a rfl rfl (pc' := 79) rfl ?_
    refine WP.aloadN d16_79 rfl rfl (pc' := 80) rfl ?_
    refine WP.callS (y := (⟨"com/example/apportion/apportion/JobsByStart", "insert", "(Lcom/example/apportion/apportion/JobsByStart$Node;Lcom/example/apportion/apportion/JobsByStart$Node;)Lcom/example/apportion/apportion/JobsByStart$Node;"⟩ : MethodName)) (By := Bi1) (as := [rv, (.ref b)]) (rest := [(.ref a)]) d16_80 (w128 hw) (w129 hw) (w2 hw) (w130 hw) (by decide) (ins1 hw JS sf nf J rv jr wr T_r b jn tn pn ln O_b hjn htn g_b n_b_wr nd_r so_r (fun x hx => hcmp x (by simp [hx]))) pd_9 rfl rfl rfl (by decide) (Nat.le_of_ble_eq_true rfl) (by decide) (by decide) (pc' := 83) rfl ?_
    rintro _ h2 ⟨v1, js1, ws1, rfl, hv1, T1, so1, mj1, nd1, mw1, Kc⟩
    have mw1' : ∀ x ∈ ws1, x ∈ b :: a :: (wl ++ wr) := fun x hx => by rcases (mw1 x).mp hx with rfl | q <;> simp [*]
    have Eo : ∀ x ∈ b :: wr, Exa Z h x "com/example/apportion/apportion/JobsByStart$Node" := fun x hx => by rcases List.mem_cons.mp hx with rfl | q; exact O_b.1; exact (T_r.nodes x q).1
    replace KE := KE.trans Kc (fun x hx => Or.inl (by rcases List.mem_cons.mp hx with rfl | q <;> simp [*]))
    replace J := J.keep Kc (J.offs Eo)
    replace O_a := O_a.keep Kc (by simp only [List.mem_cons, not_or]; exact ⟨Ne.symm n_b_a, n_a_wr⟩)
    replace T_l := T_l.keep Kc (fun x hx q => by rcases List.mem_cons.mp q with rfl | q; exact n_b_wl hx; exact nd_lr x hx x q rfl)
    have n_a_ws1 : a ∉ ws1 := fun q => by rcases (mw1 a).mp q with q | q; exact n_b_a q.symm; exact n_a_wr q
    have n_w_w : ∀ x ∈ ws1, x ∉ wl := fun x hx q => by rcases (mw1 x).mp hx with rfl | k; exact n_b_wl q; exact nd_lr x q x k rfl
    rw [TR_succ] at T1
    rcases T1 with ⟨q, -⟩ | ⟨a2, j2, t2, p2, le2, lv2, rv2, jl2, jr2, wl2, wr2, rfl, O_a2, hj2, ht2, g_a2, T_l2, T_r2, rfl, rfl⟩
    · exact absurd q hv1
    have hr_lv2 := T_l2.isRef
    have hr_rv2 := T_r2.isRef
    have m_a2 : a2 ∈ b :: a :: (wl ++ wr) := mw1' a2 (by simp)
    have n_a_a2 : a ≠ a2 := fun q => n_a_ws1 (by simp [q])
    have n_a_wl2 : a ∉ wl2 := fun q => n_a_ws1 (by simp [q])
    have n_a_wr2 : a ∉ wr2 := fun q => n_a_ws1 (by simp [q])
    have hn2 := List.nodup_cons.mp nd1
    have n_a2_wl2 : a2 ∉ wl2 := fun q => hn2.1 (by simp [q])
    have n_a2_wr2 : a2 ∉ wr2 := fun q => hn2.1 (by simp [q])
    have n_a2_wl : a2 ∉ wl := n_w_w a2 (by simp)
    show WP _ _ _ _ _ _ _ _ _ _ [(.ref a2), (.ref a)]
    refine WP.putf (i := 5) d16_83 (w154 hw) O_a (lay_ND hw) (by decide) rfl (Or.inl (w155 hw)) (w105 hw) (t := (.object "com/example/apportion/apportion/JobsByStart$Node")) (by decide) rfl rfl g_a (pc' := 86) rfl ?_
    intro h3 K4 O_n
    replace KE := KE.trans K4 (own_all (Or.inl m_a) own_all0)
    replace J := J.keep K4 (fun z hz => (own_cons (J.off hz O_a.1) own_nil))
    replace T_l2 := T_l2.keep K4 (fun z hz => (own_cons (fun q => n_a_wl2 (q ▸ hz)) own_nil))
    replace T_r2 := T_r2.keep K4 (fun z hz => (own_cons (fun q => n_a_wr2 (q ▸ hz)) own_nil))
    replace T_l := T_l.keep K4 (fun z hz => (own_cons (fun q => n_a_wl (q ▸ hz)) own_nil))
    replace O_a2 := O_a2.keep K4 (own_cons (by first | assumption | exact Ne.symm (by assumption) | exact Nat.ne_of_lt (by assumption) | exact Nat.ne_of_gt (by assumption)) own_nil)
    replace O_a : Ob Z h3 a "com/example/apportion/apportion/JobsByStart$Node" L_ND [(.ref j), (.long p), (.ref t), (.long le), lv, (.ref a2)] := O_n
    clear O_n
    refine WP.aloadN d16_86 rfl rfl (pc' := 87) rfl ?_
    refine WP.getf (i := 5) (v := (.ref a2)) d16_87 (w154 hw) O_a rfl rfl (pc' := 90) rfl ?_
    refine WP.getf (i := 1) (v := (.long p2)) d16_90 (w138 hw) O_a2 rfl rfl (pc' := 93) rfl ?_
    refine WP.aloadN d16_93 rfl rfl (pc' := 94) rfl ?_
    refine WP.getf (i := 1) (v := (.long p)) d16_94 (w138 hw) O_a rfl rfl (pc' := 97) rfl ?_
    refine WP.lcmpLe d16_97 rfl d16_98 (tgt := 125) (by decide) (pc' := 101) rfl (fun c97 => ?_) (fun c97 => ?_)
    ·
      refine WP.aloadN d16_125 rfl rfl (pc' := 126) rfl ?_
      refine WP.callS (y := (⟨"com/example/apportion/apportion/JobsByStart", "pull", "(Lcom/example/apportion/apportion/JobsByStart$Node;)V"⟩ : MethodName)) (By := B18) (as := [(.ref a)]) (rest := []) d16_126 (w139 hw) (w140 hw) (w2 hw) (w141 hw) (by decide) (pul_met hw JS sf nf J a j t p le lv (.ref a2) g_a hj O_a T_l.ch (Or.inr ⟨a2, j2, t2, p2, le2, lv2, rv2, rfl, O_a2, ht2⟩)) pd_10 rfl rfl rfl (by decide) (Nat.le_of_ble_eq_true rfl) (by decide) (by decide) (pc' := 129) rfl ?_
      rintro _ h6 ⟨rfl, Kp, le_5, O_n⟩
      replace KE := KE.trans Kp (own_all (Or.inl m_a) own_all0)
      replace J := J.keep Kp (fun z hz => (own_cons (J.off hz O_a.1) own_nil))
      replace T_l2 := T_l2.keep Kp (fun z hz => (own_cons (fun q => n_a_wl2 (q ▸ hz)) own_nil))
      replace T_r2 := T_r2.keep Kp (fun z hz => (own_cons (fun q => n_a_wr2 (q ▸ hz)) own_nil))
      replace T_l := T_l.keep Kp (fun z hz => (own_cons (fun q => n_a_wl (q ▸ hz)) own_nil))
      replace O_a2 := O_a2.keep Kp (own_cons (by first | assumption | exact Ne.symm (by assumption) | exact Nat.ne_of_lt (by assumption) | exact Nat.ne_of_gt (by assumption)) own_nil)
      replace O_a := O_n
      show WP _ _ _ _ _ _ _ _ _ _ []
      refine WP.aloadN d16_129 rfl rfl (pc' := 130) rfl ?_
      exact WP.retA d16_130 rfl rfl rfl (by decide) (by decide) (have S := insR_so mj1 so1 hso hq; have N := insR_nd mw1 nd1 hnd hbw; ⟨_, _, _, rfl, nofun, Or.inr ⟨a, j, j, p, le_5, lv, (.ref a2), _, _, _, _, rfl, O_a, hj, hj, g_a, T_l.up, (Or.inr ⟨a2, j2, t2, p2, le2, lv2, rv2, _, _, _, _, rfl, O_a2, hj2, ht2, g_a2, T_l2, T_r2, rfl, rfl⟩), rfl, rfl⟩, S.1, S.2, N.1, N.2, KE⟩)
    refine WP.aloadN d16_101 rfl rfl (pc' := 102) rfl ?_
    refine WP.getf (i := 5) (v := (.ref a2)) d16_102 (w154 hw) O_a rfl rfl (pc' := 105) rfl ?_
    refine WP.astoreN d16_105 (pc' := 106) rfl rfl (ls' := #[.val (.ref a), .val (.ref b), .val (.ref a2)]) rfl ?_
    refine WP.aloadN d16_106 rfl rfl (pc' := 107) rfl ?_
    refine WP.aloadN d16_107 rfl rfl (pc' := 108) rfl ?_
    refine WP.getf (i := 4) (v := lv2) d16_108 (w136 hw) O_a2 rfl rfl (pc' := 111) rfl ?_
    refine WP.putf (i := 5) d16_111 (w154 hw) O_a (lay_ND hw) (by decide) rfl (Or.inl (w155 hw)) (w105 hw) (t := (.object "com/example/apportion/apportion/JobsByStart$Node")) (by decide) (own_narR hr_lv2) (own_fitR hr_lv2) g_a (pc' := 114) rfl ?_
    intro h7 K8 O_n
    replace KE := KE.trans K8 (own_all (Or.inl m_a) own_all0)
    replace J := J.keep K8 (fun z hz => (own_cons (J.off hz O_a.1) own_nil))
    replace T_l2 := T_l2.keep K8 (fun z hz => (own_cons (fun q => n_a_wl2 (q ▸ hz)) own_nil))
    replace T_r2 := T_r2.keep K8 (fun z hz => (own_cons (fun q => n_a_wr2 (q ▸ hz)) own_nil))
    replace T_l := T_l.keep K8 (fun z hz => (own_cons (fun q => n_a_wl (q ▸ hz)) own_nil))
    replace O_a2 := O_a2.keep K8 (own_cons (by first | assumption | exact Ne.symm (by assumption) | exact Nat.ne_of_lt (by assumption) | exact Nat.ne_of_gt (by assumption)) own_nil)
    replace O_a : Ob Z h7 a "com/example/apportion/apportion/JobsByStart$Node" L_ND [(.ref j), (.long p), (.ref t), (.long le), lv, lv2] := O_n
    clear O_n
    refine WP.aloadN d16_114 rfl rfl (pc' := 115) rfl ?_
    refine WP.callS (y := (⟨"com/example/apportion/apportion/JobsByStart", "pull", "(Lcom/example/apportion/apportion/JobsByStart$Node;)V"⟩ : MethodName)) (By := B18) (as := [(.ref a)]) (rest := []) d16_115 (w139 hw) (w140 hw) (w2 hw) (w141 hw) (by decide) (pul_met hw JS sf nf J a j t p le lv lv2 g_a hj O_a T_l.ch T_l2.ch) pd_10 rfl rfl rfl (by decide) (Nat.le_of_ble_eq_true rfl) (by decide) (by decide) (pc' := 118) rfl ?_
    rintro _ h10 ⟨rfl, Kp, le_9, O_n⟩
    replace KE := KE.trans Kp (own_all (Or.inl m_a) own_all0)
    replace J := J.keep Kp (fun z hz => (own_cons (J.off hz O_a.1) own_nil))
    replace T_l2 := T_l2.keep Kp (fun z hz => (own_cons (fun q => n_a_wl2 (q ▸ hz)) own_nil))
    replace T_r2 := T_r2.keep Kp (fun z hz => (own_cons (fun q => n_a_wr2 (q ▸ hz)) own_nil))
    replace T_l := T_l.keep Kp (fun z hz => (own_cons (fun q => n_a_wl (q ▸ hz)) own_nil))
    replace O_a2 := O_a2.keep Kp (own_cons (by first | assumption | exact Ne.symm (by assumption) | exact Nat.ne_of_lt (by assumption) | exact Nat.ne_of_gt (by assumption)) own_nil)
    replace O_a := O_n
    show WP _ _ _ _ _ _ _ _ _ _ []
    refine WP.aloadN d16_118 rfl rfl (pc' := 119) rfl ?_
    refine WP.aloadN d16_119 rfl rfl (pc' := 120) rfl ?_
    refine WP.putf (i := 4) d16_120 (w136 hw) O_a2 (lay_ND hw) (by decide) rfl (Or.inl (w137 hw)) (w105 hw) (t := (.object "com/example/apportion/apportion/JobsByStart$Node")) (by decide) rfl rfl g_a2 (pc' := 123) rfl ?_
    intro h11 K12 O_n
    replace KE := KE.trans K12 (own_all (Or.inl m_a2) own_all0)
    replace J := J.keep K12 (fun z hz => (own_cons (J.off hz O_a2.1) own_nil))
    replace T_l2 := T_l2.keep K12 (fun z hz => (own_cons (fun q => n_a2_wl2 (q ▸ hz)) own_nil))
    replace T_r2 := T_r2.keep K12 (fun z hz => (own_cons (fun q => n_a2_wr2 (q ▸ hz)) own_nil))
    replace T_l := T_l.keep K12 (fun z hz => (own_cons (fun q => n_a2_wl (q ▸ hz)) own_nil))
    replace O_a := O_a.keep K12 (own_cons (by first | assumption | exact Ne.symm (by assumption) | exact Nat.ne_of_lt (by assumption) | exact Nat.ne_of_gt (by assumption)) own_nil)
    replace O_a2 : Ob Z h11 a2 "com/example/apportion/apportion/JobsByStart$Node" L_ND [(.ref j2), (.long p2), (.ref t2), (.long le2), (.ref a), rv2] := O_n
    clear O_n
    refine WP.aloadN d16_123 rfl rfl (pc' := 124) rfl ?_
    refine WP.astoreN d16_124 (pc' := 125) rfl rfl (ls' := #[.val (.ref a2), .val (.ref b), .val (.ref a2)]) rfl ?_
    refine WP.aloadN d16_125 rfl rfl (pc' := 126) rfl ?_
    refine WP.callS (y := (⟨"com/example/apportion/apportion/JobsByStart", "pull", "(Lcom/example/apportion/apportion/JobsByStart$Node;)V"⟩ : MethodName)) (By := B18) (as := [(.ref a2)]) (rest := []) d16_126 (w139 hw) (w140 hw) (w2 hw) (w141 hw) (by decide) (pul_met hw JS sf nf J a2 j2 t2 p2 le2 (.ref a) rv2 g_a2 hj2 O_a2 (Or.inr ⟨a, j, j, p, le_9, lv, lv2, rfl, O_a, hj⟩) T_r2.ch) pd_10 rfl rfl rfl (by decide) (Nat.le_of_ble_eq_true rfl) (by decide) (by decide) (pc' := 129) rfl ?_
    rintro _ h14 ⟨rfl, Kp, le_13, O_n⟩
    replace KE := KE.trans Kp (own_all (Or.inl m_a2) own_all0)
    replace J := J.keep Kp (fun z hz => (own_cons (J.off hz O_a2.1) own_nil))
    replace T_l2 := T_l2.keep Kp (fun z hz => (own_cons (fun q => n_a2_wl2 (q ▸ hz)) own_nil))
    replace T_r2 := T_r2.keep Kp (fun z hz => (own_cons (fun q => n_a2_wr2 (q ▸ hz)) own_nil))
    replace T_l := T_l.keep Kp (fun z hz => (own_cons (fun q => n_a2_wl (q ▸ hz)) own_nil))
    replace O_a := O_a.keep Kp (own_cons (by first | assumption | exact Ne.symm (by assumption) | exact Nat.ne_of_lt (by assumption) | exact Nat.ne_of_gt (by assumption)) own_nil)
    replace O_a2 := O_n
    show WP _ _ _ _ _ _ _ _ _ _ []
    refine WP.aloadN d16_129 rfl rfl (pc' := 130) rfl ?_
    exact WP.retA d16_130 rfl rfl rfl (by decide) (by decide) (have S := insR_so mj1 so1 hso hq; have N := insR_nd mw1 nd1 hnd hbw; ⟨_, _, _, rfl, nofun, Or.inr ⟨a2, j2, j2, p2, le_13, (.ref a), rv2, _, _, _, _, rfl, O_a2, hj2, hj2, g_a2, (Or.inr ⟨a, j, j, p, le_9, lv, lv2, _, _, _, _, rfl, O_a, hj, hj, g_a, T_l, T_l2, rfl, rfl⟩), T_r2.up, (by simp), rfl⟩, S.1, S.2, rotR.nodup_iff.mpr N.1, fun x => rotR.mem_iff.trans (N.2 x), KE⟩)
  have hq : lt sf nf jn j := by unfold lt at *; omega
  refine WP.aloadN d16_20 rfl rfl (pc' := 21) rfl ?_
  refine WP.aloadN d16_21 rfl rfl (pc' := 22) rfl ?_
  refine WP.getf (i := 4) (v := lv) d16_22 (w136 hw) O_a rfl rfl (pc' := 25) rfl ?_
  refine WP.aloadN d16_25 rfl rfl (pc' := 26) rfl ?_
  refine WP.callS (y := (⟨"com/example/apportion/apportion/JobsByStart", "insert", "(Lcom/example/apportion/apportion/JobsByStart$Node;Lcom/example/apportion/apportion/JobsByStart$Node;)Lcom/example/apportion/apportion/JobsByStart$Node;"⟩ : MethodName)) (By := Bi1) (as := [lv, (.ref b)]) (rest := [(.ref a)]) d16_26 (w128 hw) (w129 hw) (w2 hw) (w130 hw) (by decide) (ins1 hw JS sf nf J lv jl wl T_l b jn tn pn ln O_b hjn htn g_b n_b_wl nd_l so_l (fun x hx => hcmp x (by simp [hx]))) pd_9 rfl rfl rfl (by decide) (Nat.le_of_ble_eq_true rfl) (by decide) (by decide) (pc' := 29) rfl ?_
  rintro _ h15 ⟨v1, js1, ws1, rfl, hv1, T1, so1, mj1, nd1, mw1, Kc⟩
  have mw1' : ∀ x ∈ ws1, x ∈ b :: a :: (wl ++ wr) := fun x hx => by rcases (mw1 x).mp hx with rfl | q <;> simp [*]
  have Eo : ∀ x ∈ b :: wl, Exa Z h x "com/example/apportion/apportion/JobsByStart$Node" := fun x hx => by rcases List.mem_cons.mp hx with rfl | q; exact O_b.1; exact (T_l.nodes x q).1
  replace KE := KE.trans Kc (fun x hx => Or.inl (by rcases List.mem_cons.mp hx with rfl | q <;> simp [*]))
  replace J := J.keep Kc (J.offs Eo)
  replace O_a := O_a.keep Kc (by simp only [List.mem_cons, not_or]; exact ⟨Ne.symm n_b_a, n_a_wl⟩)
  replace T_r := T_r.keep Kc (fun x hx q => by rcases List.mem_cons.mp q with rfl | q; exact n_b_wr hx; exact nd_lr x q x hx rfl)
  have n_a_ws1 : a ∉ ws1 := fun q => by rcases (mw1 a).mp q with q | q; exact n_b_a q.symm; exact n_a_wl q
  have n_w_w : ∀ x ∈ ws1, x ∉ wr := fun x hx q => by rcases (mw1 x).mp hx with rfl | k; exact n_b_wr q; exact nd_lr x k x q rfl
  rw [TR_succ] at T1
  rcases T1 with ⟨q, -⟩ | ⟨a2, j2, t2, p2, le2, lv2, rv2, jl2, jr2, wl2, wr2, rfl, O_a2, hj2, ht2, g_a2, T_l2, T_r2, rfl, rfl⟩
  · exact absurd q hv1
  have hr_lv2 := T_l2.isRef
  have hr_rv2 := T_r2.isRef
  have m_a2 : a2 ∈ b :: a :: (wl ++ wr) := mw1' a2 (by simp)
  have n_a_a2 : a ≠ a2 := fun q => n_a_ws1 (by simp [q])
  have n_a_wl2 : a ∉ wl2 := fun q => n_a_ws1 (by simp [q])
  have n_a_wr2 : a ∉ wr2 := fun q => n_a_ws1 (by simp [q])
  have hn2 := List.nodup_cons.mp nd1
  have n_a2_wl2 : a2 ∉ wl2 := fun q => hn2.1 (by simp [q])
  have n_a2_wr2 : a2 ∉ wr2 := fun q => hn2.1 (by simp [q])
  have n_a2_wr : a2 ∉ wr := n_w_w a2 (by simp)
  show WP _ _ _ _ _ _ _ _ _ _ [(.ref a2), (.ref a)]
  refine WP.putf (i := 4) d16_29 (w136 hw) O_a (lay_ND hw) (by decide) rfl (Or.inl (w137 hw)) (w105 hw) (t := (.object "com/example/apportion/apportion/JobsByStart$Node")) (by decide) rfl rfl g_a (pc' := 32) rfl ?_
  intro h16 K17 O_n
  replace KE := KE.trans K17 (own_all (Or.inl m_a) own_all0)
  replace J := J.keep K17 (fun z hz => (own_cons (J.off hz O_a.1) own_nil))
  replace T_l2 := T_l2.keep K17 (fun z hz => (own_cons (fun q => n_a_wl2 (q ▸ hz)) own_nil))
  replace T_r2 := T_r2.keep K17 (fun z hz => (own_cons (fun q => n_a_wr2 (q ▸ hz)) own_nil))
  replace T_r := T_r.keep K17 (fun z hz => (own_cons (fun q => n_a_wr (q ▸ hz)) own_nil))
  replace O_a2 := O_a2.keep K17 (own_cons (by first | assumption | exact Ne.symm (by assumption) | exact Nat.ne_of_lt (by assumption) | exact Nat.ne_of_gt (by assumption)) own_nil)
  replace O_a : Ob Z h16 a "com/example/apportion/apportion/JobsByStart$Node" L_ND [(.ref j), (.long p), (.ref t), (.long le), (.ref a2), rv] := O_n
  clear O_n
  refine WP.aloadN d16_32 rfl rfl (pc' := 33) rfl ?_
  refine WP.getf (i := 4) (v := (.ref a2)) d16_33 (w136 hw) O_a rfl rfl (pc' := 36) rfl ?_
  refine WP.getf (i := 1) (v := (.long p2)) d16_36 (w138 hw) O_a2 rfl rfl (pc' := 39) rfl ?_
  refine WP.aloadN d16_39 rfl rfl (pc' := 40) rfl ?_
  refine WP.getf (i := 1) (v := (.long p)) d16_40 (w138 hw) O_a rfl rfl (pc' := 43) rfl ?_
  refine WP.lcmpLe d16_43 rfl d16_44 (tgt := 125) (by decide) (pc' := 47) rfl (fun c43 => ?_) (fun c43 => ?_)
  ·
    refine WP.aloadN d16_125 rfl rfl (pc' := 126) rfl ?_
    refine WP.callS (y := (⟨"com/example/apportion/apportion/JobsByStart", "pull", "(Lcom/example/apportion/apportion/JobsByStart$Node;)V"⟩ : MethodName)) (By := B18) (as := [(.ref a)]) (rest := []) d16_126 (w139 hw) (w140 hw) (w2 hw) (w141 hw) (by decide) (pul_met hw JS sf nf J a j t p le (.ref a2) rv g_a hj O_a (Or.inr ⟨a2, j2, t2, p2, le2, lv2, rv2, rfl, O_a2, ht2⟩) T_r.ch) pd_10 rfl rfl rfl (by decide) (Nat.le_of_ble_eq_true rfl) (by decide) (by decide) (pc' := 129) rfl ?_
    rintro _ h19 ⟨rfl, Kp, le_18, O_n⟩
    replace KE := KE.trans Kp (own_all (Or.inl m_a) own_all0)
    replace J := J.keep Kp (fun z hz => (own_cons (J.off hz O_a.1) own_nil))
    replace T_l2 := T_l2.keep Kp (fun z hz => (own_cons (fun q => n_a_wl2 (q ▸ hz)) own_nil))
    replace T_r2 := T_r2.keep Kp (fun z hz => (own_cons (fun q => n_a_wr2 (q ▸ hz)) own_nil))
    replace T_r := T_r.keep Kp (fun z hz => (own_cons (fun q => n_a_wr (q ▸ hz)) own_nil))
    replace O_a2 := O_a2.keep Kp (own_cons (by first | assumption | exact Ne.symm (by assumption) | exact Nat.ne_of_lt (by assumption) | exact Nat.ne_of_gt (by assumption)) own_nil)
    replace O_a := O_n
    show WP _ _ _ _ _ _ _ _ _ _ []
    refine WP.aloadN d16_129 rfl rfl (pc' := 130) rfl ?_
    exact WP.retA d16_130 rfl rfl rfl (by decide) (by decide) (have S := insL_so mj1 so1 hso hq; have N := insL_nd mw1 nd1 hnd hbw; ⟨_, _, _, rfl, nofun, Or.inr ⟨a, j, j, p, le_18, (.ref a2), rv, _, _, _, _, rfl, O_a, hj, hj, g_a, (Or.inr ⟨a2, j2, t2, p2, le2, lv2, rv2, _, _, _, _, rfl, O_a2, hj2, ht2, g_a2, T_l2, T_r2, rfl, rfl⟩), T_r.up, rfl, rfl⟩, S.1, S.2, N.1, N.2, KE⟩)
  refine WP.aloadN d16_47 rfl rfl (pc' := 48) rfl ?_
  refine WP.getf (i := 4) (v := (.ref a2)) d16_48 (w136 hw) O_a rfl rfl (pc' := 51) rfl ?_
  refine WP.astoreN d16_51 (pc' := 52) rfl rfl (ls' := #[.val (.ref a), .val (.ref b), .val (.ref a2)]) rfl ?_
  refine WP.aloadN d16_52 rfl rfl (pc' := 53) rfl ?_
  refine WP.aloadN d16_53 rfl rfl (pc' := 54) rfl ?_
  refine WP.getf (i := 5) (v := rv2) d16_54 (w154 hw) O_a2 rfl rfl (pc' := 57) rfl ?_
  refine WP.putf (i := 4) d16_57 (w136 hw) O_a (lay_ND hw) (by decide) rfl (Or.inl (w137 hw)) (w105 hw) (t := (.object "com/example/apportion/apportion/JobsByStart$Node")) (by decide) (own_narR hr_rv2) (own_fitR hr_rv2) g_a (pc' := 60) rfl ?_
  intro h20 K21 O_n
  replace KE := KE.trans K21 (own_all (Or.inl m_a) own_all0)
  replace J := J.keep K21 (fun z hz => (own_cons (J.off hz O_a.1) own_nil))
  replace T_l2 := T_l2.keep K21 (fun z hz => (own_cons (fun q => n_a_wl2 (q ▸ hz)) own_nil))
  replace T_r2 := T_r2.keep K21 (fun z hz => (own_cons (fun q => n_a_wr2 (q ▸ hz)) own_nil))
  replace T_r := T_r.keep K21 (fun z hz => (own_cons (fun q => n_a_wr (q ▸ hz)) own_nil))
  replace O_a2 := O_a2.keep K21 (own_cons (by first | assumption | exact Ne.symm (by assumption) | exact Nat.ne_of_lt (by assumption) | exact Nat.ne_of_gt (by assumption)) own_nil)
  replace O_a : Ob Z h20 a "com/example/apportion/apportion/JobsByStart$Node" L_ND [(.ref j), (.long p), (.ref t), (.long le), rv2, rv] := O_n
  clear O_n
  refine WP.aloadN d16_60 rfl rfl (pc' := 61) rfl ?_
  refine WP.callS (y := (⟨"com/example/apportion/apportion/JobsByStart", "pull", "(Lcom/example/apportion/apportion/JobsByStart$Node;)V"⟩ : MethodName)) (By := B18) (as := [(.ref a)]) (rest := []) d16_61 (w139 hw) (w140 hw) (w2 hw) (w141 hw) (by decide) (pul_met hw JS sf nf J a j t p le rv2 rv g_a hj O_a T_r2.ch T_r.ch) pd_10 rfl rfl rfl (by decide) (Nat.le_of_ble_eq_true rfl) (by decide) (by decide) (pc' := 64) rfl ?_
  rintro _ h23 ⟨rfl, Kp, le_22, O_n⟩
  replace KE := KE.trans Kp (own_all (Or.inl m_a) own_all0)
  replace J := J.keep Kp (fun z hz => (own_cons (J.off hz O_a.1) own_nil))
  replace T_l2 := T_l2.keep Kp (fun z hz => (own_cons (fun q => n_a_wl2 (q ▸ hz)) own_nil))
  replace T_r2 := T_r2.keep Kp (fun z hz => (own_cons (fun q => n_a_wr2 (q ▸ hz)) own_nil))
  replace T_r := T_r.keep Kp (fun z hz => (own_cons (fun q => n_a_wr (q ▸ hz)) own_nil))
  replace O_a2 := O_a2.keep Kp (own_cons (by first | assumption | exact Ne.symm (by assumption) | exact Nat.ne_of_lt (by assumption) | exact Nat.ne_of_gt (by assumption)) own_nil)
  replace O_a := O_n
  show WP _ _ _ _ _ _ _ _ _ _ []
  refine WP.aloadN d16_64 rfl rfl (pc' := 65) rfl ?_
  refine WP.aloadN d16_65 rfl rfl (pc' := 66) rfl ?_
  refine WP.putf (i := 5) d16_66 (w154 hw) O_a2 (lay_ND hw) (by decide) rfl (Or.inl (w155 hw)) (w105 hw) (t := (.object "com/example/apportion/apportion/JobsByStart$Node")) (by decide) rfl rfl g_a2 (pc' := 69) rfl ?_
  intro h24 K25 O_n
  replace KE := KE.trans K25 (own_all (Or.inl m_a2) own_all0)
  replace J := J.keep K25 (fun z hz => (own_cons (J.off hz O_a2.1) own_nil))
  replace T_l2 := T_l2.keep K25 (fun z hz => (own_cons (fun q => n_a2_wl2 (q ▸ hz)) own_nil))
  replace T_r2 := T_r2.keep K25 (fun z hz => (own_cons (fun q => n_a2_wr2 (q ▸ hz)) own_nil))
  replace T_r := T_r.keep K25 (fun z hz => (own_cons (fun q => n_a2_wr (q ▸ hz)) own_nil))
  replace O_a := O_a.keep K25 (own_cons (by first | assumption | exact Ne.symm (by assumption) | exact Nat.ne_of_lt (by assumption) | exact Nat.ne_of_gt (by assumption)) own_nil)
  replace O_a2 : Ob Z h24 a2 "com/example/apportion/apportion/JobsByStart$Node" L_ND [(.ref j2), (.long p2), (.ref t2), (.long le2), lv2, (.ref a)] := O_n
  clear O_n
  refine WP.aloadN d16_69 rfl rfl (pc' := 70) rfl ?_
  refine WP.astoreN d16_70 (pc' := 71) rfl rfl (ls' := #[.val (.ref a2), .val (.ref b), .val (.ref a2)]) rfl ?_
  refine WP.goto d16_71 (pc' := 125) (by decide) ?_
  refine WP.aloadN d16_125 rfl rfl (pc' := 126) rfl ?_
  refine WP.callS (y := (⟨"com/example/apportion/apportion/JobsByStart", "pull", "(Lcom/example/apportion/apportion/JobsByStart$Node;)V"⟩ : MethodName)) (By := B18) (as := [(.ref a2)]) (rest := []) d16_126 (w139 hw) (w140 hw) (w2 hw) (w141 hw) (by decide) (pul_met hw JS sf nf J a2 j2 t2 p2 le2 lv2 (.ref a) g_a2 hj2 O_a2 T_l2.ch (Or.inr ⟨a, j, j, p, le_22, rv2, rv, rfl, O_a, hj⟩)) pd_10 rfl rfl rfl (by decide) (Nat.le_of_ble_eq_true rfl) (by decide) (by decide) (pc' := 129) rfl ?_
  rintro _ h27 ⟨rfl, Kp, le_26, O_n⟩
  replace KE := KE.trans Kp (own_all (Or.inl m_a2) own_all0)
  replace J := J.keep Kp (fun z hz => (own_cons (J.off hz O_a2.1) own_nil))
  replace T_l2 := T_l2.keep Kp (fun z hz => (own_cons (fun q => n_a2_wl2 (q ▸ hz)) own_nil))
  replace T_r2 := T_r2.keep Kp (fun z hz => (own_cons (fun q => n_a2_wr2 (q ▸ hz)) own_nil))
  replace T_r := T_r.keep Kp (fun z hz => (own_cons (fun q => n_a2_wr (q ▸ hz)) own_nil))
  replace O_a := O_a.keep Kp (own_cons (by first | assumption | exact Ne.symm (by assumption) | exact Nat.ne_of_lt (by assumption) | exact Nat.ne_of_gt (by assumption)) own_nil)
  replace O_a2 := O_n
  show WP _ _ _ _ _ _ _ _ _ _ []
  refine WP.aloadN d16_129 rfl rfl (pc' := 130) rfl ?_
  exact WP.retA d16_130 rfl rfl rfl (by decide) (by decide) (have S := insL_so mj1 so1 hso hq; have N := insL_nd mw1 nd1 hnd hbw; ⟨_, _, _, rfl, nofun, Or.inr ⟨a2, j2, j2, p2, le_26, lv2, (.ref a), _, _, _, _, rfl, O_a2, hj2, hj2, g_a2, T_l2.up, (Or.inr ⟨a, j, j, p, le_22, rv2, rv, _, _, _, _, rfl, O_a, hj, hj, g_a, T_r2, T_r, rfl, rfl⟩), (by simp), rfl⟩, S.1, S.2, rotL.nodup_iff.mpr N.1, fun x => rotL.mem_iff.trans (N.2 x), KE⟩)
theorem ins2 {l : Launch} {Z : State} {a0 : Array Value} (hw : HW Z a0) {n0 : Nat} {h : Heap} (JS : List Addr) (sf nf : Addr → Int64) (J : JOK Z h JS sf nf) (v : Value) (js ws : List Addr) (hT : TR Z n0 JS h 2 v js ws) (b jn tn : Addr) (pn ln : Int64) (O_b : Ob Z h b "com/example/apportion/apportion/JobsByStart$Node" L_ND [.ref jn, .long pn, .ref tn, .long ln, .null, .null]) (hjn : jn ∈ JS) (htn : tn ∈ JS) (g_b : n0 ≤ b) (hbw : b ∉ ws) (hnd : ws.Nodup) (hso : js.Pairwise (lt sf nf)) (hcmp : ∀ x ∈ js, lt sf nf jn x ∨ lt sf nf x jn) : OMet l (⟨"com/example/apportion/apportion/JobsByStart", "insert", "(Lcom/example/apportion/apportion/JobsByStart$Node;Lcom/example/apportion/apportion/JobsByStart$Node;)Lcom/example/apportion/apportion/JobsByStart$Node;"⟩ : MethodName) Bi2 Z n0 #[v, (.ref b)] h (fun r h' => InsP Z n0 JS sf nf h h' 2 b jn js ws r) := by
  have hT' := hT
  rw [show 2 = 1 + 1 from rfl, TR_succ] at hT'
  rcases hT' with ⟨rfl, rfl, rfl⟩ | ⟨a, j, t, p, le, lv, rv, jl, jr, wl, wr, rfl, -⟩
  · exact ins2_n hw JS sf nf J b jn tn pn ln O_b hjn htn g_b
  · exact ins2_r hw JS sf nf J a js ws hT b jn tn pn ln O_b hjn htn g_b hbw hnd hso hcmp
def JoiP (Z : State) (n0 : Nat) (JS : List Addr) (h h' : Heap) (f : Nat) (js ws : List Addr) (r : Option Value) : Prop :=
  ∃ (v' : Value) (ws' : List Addr), r = some v' ∧ TR Z n0 JS h' f v' js ws' ∧ ws'.Perm ws ∧ Keep h h' ws
theorem joiP1 {a1 : Addr} {ws1 ws2 wl1 wr1 w3 : List Addr} (e : ws1 = a1 :: (wl1 ++ wr1)) (P : w3.Perm (wr1 ++ ws2)) : (a1 :: (wl1 ++ w3)).Perm (ws1 ++ ws2) := by
  subst e; simpa using P.append_left wl1
theorem joiP2 {a2 : Addr} {ws1 ws2 wl2 wr2 w3 : List Addr} (e : ws2 = a2 :: (wl2 ++ wr2)) (P : w3.Perm (ws1 ++ wl2)) : (a2 :: (w3 ++ wr2)).Perm (ws1 ++ ws2) := by
  subst e
  have h1 : (a2 :: (w3 ++ wr2)).Perm (a2 :: (ws1 ++ (wl2 ++ wr2))) := by simpa using P.append_right wr2
  exact h1.trans List.perm_middle.symm
def Bj00 : Bod := ("com/example/apportion/apportion/JobsByStart", "join", prog_103_method_14_code, 2, some (.object "com/example/apportion/apportion/JobsByStart$Node"), ({ frames := 0, cells := 0, slots := 0, locals := 0 } : Room))
theorem joi00_n {l : Launch} {Z : State} {a0 : Array Value} (hw : HW Z a0) {n0 : Nat} {h : Heap} (JS : List Addr) (sf nf : Addr → Int64) (J : JOK Z h JS sf nf) (v2 : Value) (js2 ws2 : List Addr) (T2 : TR Z n0 JS h 0 v2 js2 ws2) : OMet l (⟨"com/example/apportion/apportion/JobsByStart", "join", "(Lcom/example/apportion/apportion/JobsByStart$Node;Lcom/example/apportion/apportion/JobsByStart$Node;)Lcom/example/apportion/apportion/JobsByStart$Node;"⟩ : MethodName) Bj00 Z n0 #[.null, v2] h (fun r h' => JoiP Z n0 JS h h' 0 js2 ws2 r) := by
  refine OMet.of_wp (ls0 := #[.val .null, .val v2]) pl25 rfl rfl (fun m => by rcases ref_cases T2.isRef with rfl | ⟨_, rfl⟩ <;> exact own_entry 0 rfl rfl) ?_
  have hr_v2 := T2.isRef
  refine WP.aloadN d25_0 rfl rfl (pc' := 1) rfl ?_
  refine WP.ifnonnullN d25_1 (pc' := 4) rfl ?_
  refine WP.aloadN d25_4 rfl hr_v2 (pc' := 5) rfl ?_
  exact WP.retA d25_5 rfl rfl hr_v2 (by decide) (by decide) ⟨_, _, rfl, T2.le (by decide), .refl _, Keep.refl _ _⟩
theorem joi00 {l : Launch} {Z : State} {a0 : Array Value} (hw : HW Z a0) {n0 : Nat} {h : Heap} (JS : List Addr) (sf nf : Addr → Int64) (J : JOK Z h JS sf nf) (v1 v2 : Value) (js1 js2 ws1 ws2 : List Addr) (T1 : TR Z n0 JS h 0 v1 js1 ws1) (T2 : TR Z n0 JS h 0 v2 js2 ws2) (hnd : (ws1 ++ ws2).Nodup) : OMet l (⟨"com/example/apportion/apportion/JobsByStart", "join", "(Lcom/example/apportion/apportion/JobsByStart$Node;Lcom/example/apportion/apportion/JobsByStart$Node;)Lcom/example/apportion/apportion/JobsByStart$Node;"⟩ : MethodName) Bj00 Z n0 #[v1, v2] h (fun r h' => JoiP Z n0 JS h h' 0 (js1 ++ js2) (ws1 ++ ws2) r) := by
  obtain ⟨rfl, rfl, rfl⟩ := T1
  exact joi00_n hw JS sf nf J v2 js2 ws2 T2
def Bj01 : Bod := ("com/example/apportion/apportion/JobsByStart", "join", prog_103_method_14_code, 2, some (.object "com/example/apportion/apportion/JobsByStart$Node"), ({ frames := 0, cells := 0, slots := 0, locals := 0 } : Room))
theorem joi01_n {l : Launch} {Z : State} {a0 : Array Value} (hw : HW Z a0) {n0 : Nat} {h : Heap} (JS : List Addr) (sf nf : Addr → Int64) (J : JOK Z h JS sf nf) (v2 : Value) (js2 ws2 : List Addr) (T2 : TR Z n0 JS h 1 v2 js2 ws2) : OMet l (⟨"com/example/apportion/apportion/JobsByStart", "join", "(Lcom/example/apportion/apportion/JobsByStart$Node;Lcom/example/apportion/apportion/JobsByStart$Node;)Lcom/example/apportion/apportion/JobsByStart$Node;"⟩ : MethodName) Bj01 Z n0 #[.null, v2] h (fun r h' => JoiP Z n0 JS h h' 1 js2 ws2 r) := by
  refine OMet.of_wp (ls0 := #[.val .null, .val v2]) pl25 rfl rfl (fun m => by rcases ref_cases T2.isRef with rfl | ⟨_, rfl⟩ <;> exact own_entry 0 rfl rfl) ?_
  have hr_v2 := T2.isRef
  refine WP.aloadN d25_0 rfl rfl (pc' := 1) rfl ?_
  refine WP.ifnonnullN d25_1 (pc' := 4) rfl ?_
  refine WP.aloadN d25_4 rfl hr_v2 (pc' := 5) rfl ?_
  exact WP.retA d25_5 rfl rfl hr_v2 (by decide) (by decide) ⟨_, _, rfl, T2.le (by decide), .refl _, Keep.refl _ _⟩
theorem joi01 {l : Launch} {Z : State} {a0 : Array Value} (hw : HW Z a0) {n0 : Nat} {h : Heap} (JS : List Addr) (sf nf : Addr → Int64) (J : JOK Z h JS sf nf) (v1 v2 : Value) (js1 js2 ws1 ws2 : List Addr) (T1 : TR Z n0 JS h 0 v1 js1 ws1) (T2 : TR Z n0 JS h 1 v2 js2 ws2) (hnd : (ws1 ++ ws2).Nodup) : OMet l (⟨"com/example/apportion/apportion/JobsByStart", "join", "(Lcom/example/apportion/apportion/JobsByStart$Node;Lcom/example/apportion/apportion/JobsByStart$Node;)Lcom/example/apportion/apportion/JobsByStart$Node;"⟩ : MethodName) Bj01 Z n0 #[v1, v2] h (fun r h' => JoiP Z n0 JS h h' 1 (js1 ++ js2) (ws1 ++ ws2) r) := by
  obtain ⟨rfl, rfl, rfl⟩ := T1
  exact joi01_n hw JS sf nf J v2 js2 ws2 T2
def Bj10 : Bod := ("com/example/apportion/apportion/JobsByStart", "join", prog_103_method_14_code, 2, some (.object "com/example/apportion/apportion/JobsByStart$Node"), ({ frames := 0, cells := 0, slots := 0, locals := 0 } : Room))
theorem joi10_n {l : Launch} {Z : State} {a0 : Array Value} (hw : HW Z a0) {n0 : Nat} {h : Heap} (JS : List Addr) (sf nf : Addr → Int64) (J : JOK Z h JS sf nf) (v2 : Value) (js2 ws2 : List Addr) (T2 : TR Z n0 JS h 0 v2 js2 ws2) : OMet l (⟨"com/example/apportion/apportion/JobsByStart", "join", "(Lcom/example/apportion/apportion/JobsByStart$Node;Lcom/example/apportion/apportion/JobsByStart$Node;)Lcom/example/apportion/apportion/JobsByStart$Node;"⟩ : MethodName) Bj10 Z n0 #[.null, v2] h (fun r h' => JoiP Z n0 JS h h' 1 js2 ws2 r) := by
  refine OMet.of_wp (ls0 := #[.val .null, .val v2]) pl25 rfl rfl (fun m => by rcases ref_cases T2.isRef with rfl | ⟨_, rfl⟩ <;> exact own_entry 0 rfl rfl) ?_
  have hr_v2 := T2.isRef
  refine WP.aloadN d25_0 rfl rfl (pc' := 1) rfl ?_
  refine WP.ifnonnullN d25_1 (pc' := 4) rfl ?_
  refine WP.aloadN d25_4 rfl hr_v2 (pc' := 5) rfl ?_
  exact WP.retA d25_5 rfl rfl hr_v2 (by decide) (by decide) ⟨_, _, rfl, T2.le (by decide), .refl _, Keep.refl _ _⟩
theorem joi10_rn {l : Launch} {Z : State} {a0 : Array Value} (hw : HW Z a0) {n0 : Nat} {h : Heap} (JS : List Addr) (sf nf : Addr → Int64) (J : JOK Z h JS sf nf) (a1 : Addr) (js1 ws1 : List Addr) (T1 : TR Z n0 JS h 1 (.ref a1) js1 ws1) : OMet l (⟨"com/example/apportion/apportion/JobsByStart", "join", "(Lcom/example/apportion/apportion/JobsByStart$Node;Lcom/example/apportion/apportion/JobsByStart$Node;)Lcom/example/apportion/apportion/JobsByStart$Node;"⟩ : MethodName) Bj10 Z n0 #[(.ref a1), .null] h (fun r h' => JoiP Z n0 JS h h' 1 js1 ws1 r) := by
  refine OMet.of_wp (ls0 := #[.val (.ref a1), .val .null]) pl25 rfl rfl (fun m => own_entry 0 rfl rfl) ?_
  refine WP.aloadN d25_0 rfl rfl (pc' := 1) rfl ?_
  refine WP.ifnonnullY d25_1 (pc' := 6) (by decide) ?_
  refine WP.aloadN d25_6 rfl rfl (pc' := 7) rfl ?_
  refine WP.ifnonnullN d25_7 (pc' := 10) rfl ?_
  refine WP.aloadN d25_10 rfl rfl (pc' := 11) rfl ?_
  exact WP.retA d25_11 rfl rfl rfl (by decide) (by decide) ⟨_, _, rfl, T1.le (by decide), .refl _, Keep.refl _ _⟩
theorem joi10 {l : Launch} {Z : State} {a0 : Array Value} (hw : HW Z a0) {n0 : Nat} {h : Heap} (JS : List Addr) (sf nf : Addr → Int64) (J : JOK Z h JS sf nf) (v1 v2 : Value) (js1 js2 ws1 ws2 : List Addr) (T1 : TR Z n0 JS h 1 v1 js1 ws1) (T2 : TR Z n0 JS h 0 v2 js2 ws2) (hnd : (ws1 ++ ws2).Nodup) : OMet l (⟨"com/example/apportion/apportion/JobsByStart", "join", "(Lcom/example/apportion/apportion/JobsByStart$Node;Lcom/example/apportion/apportion/JobsByStart$Node;)Lcom/example/apportion/apportion/JobsByStart$Node;"⟩ : MethodName) Bj10 Z n0 #[v1, v2] h (fun r h' => JoiP Z n0 JS h h' 1 (js1 ++ js2) (ws1 ++ ws2) r) := by
  have T1' := T1
  rw [show 1 = 0 + 1 from rfl, TR_succ] at T1'
  rcases T1' with ⟨rfl, rfl, rfl⟩ | ⟨a1, j, t, p, le, lv, rv, jl, jr, wl, wr, rfl, -⟩
  · exact joi10_n hw JS sf nf J v2 js2 ws2 T2
  · obtain ⟨rfl, rfl, rfl⟩ := T2
    simp only [List.append_nil]; exact joi10_rn (l := l) hw JS sf nf J a1 js1 ws1 T1
def Bj02 : Bod := ("com/example/apportion/apportion/JobsByStart", "join", prog_103_method_14_code, 2, some (.object "com/example/apportion/apportion/JobsByStart$Node"), ({ frames := 0, cells := 0, slots := 0, locals := 0 } : Room))
theorem joi02_n {l : Launch} {Z : State} {a0 : Array Value} (hw : HW Z a0) {n0 : Nat} {h : Heap} (JS : List Addr) (sf nf : Addr → Int64) (J : JOK Z h JS sf nf) (v2 : Value) (js2 ws2 : List Addr) (T2 : TR Z n0 JS h 2 v2 js2 ws2) : OMet l (⟨"com/example/apportion/apportion/JobsByStart", "join", "(Lcom/example/apportion/apportion/JobsByStart$Node;Lcom/example/apportion/apportion/JobsByStart$Node;)Lcom/example/apportion/apportion/JobsByStart$Node;"⟩ : MethodName) Bj02 Z n0 #[.null, v2] h (fun r h' => JoiP Z n0 JS h h' 2 js2 ws2 r) := by
  refine OMet.of_wp (ls0 := #[.val .null, .val v2]) pl25 rfl rfl (fun m => by rcases ref_cases T2.isRef with rfl | ⟨_, rfl⟩ <;> exact own_entry 0 rfl rfl) ?_
  have hr_v2 := T2.isRef
  refine WP.aloadN d25_0 rfl rfl (pc' := 1) rfl ?_
  refine WP.ifnonnullN d25_1 (pc' := 4) rfl ?_
  refine WP.aloadN d25_4 rfl hr_v2 (pc' := 5) rfl ?_
  exact WP.retA d25_5 rfl rfl hr_v2 (by decide) (by decide) ⟨_, _, rfl, T2.le (by decide), .refl _, Keep.refl _ _⟩
theorem joi02 {l : Launch} {Z : State} {a0 : Array Value} (hw : HW Z a0) {n0 : Nat} {h : Heap} (JS : List Addr) (sf nf : Addr → Int64) (J : JOK Z h JS sf nf) (v1 v2 : Value) (js1 js2 ws1 ws2 : List Addr) (T1 : TR Z n0 JS h 0 v1 js1 ws1) (T2 : TR Z n0 JS h 2 v2 js2 ws2) (hnd : (ws1 ++ ws2).Nodup) : OMet l (⟨"com/example/apportion/apportion/JobsByStart", "join", "(Lcom/example/apportion/apportion/JobsByStart$Node;Lcom/example/apportion/apportion/JobsByStart$Node;)Lcom/example/apportion/apportion/JobsByStart$Node;"⟩ : MethodName) Bj02 Z n0 #[v1, v2] h (fun r h' => JoiP Z n0 JS h h' 2 (js1 ++ js2) (ws1 ++ ws2) r) := by
  obtain ⟨rfl, rfl, rfl⟩ := T1
  exact joi02_n hw JS sf nf J v2 js2 ws2 T2
def Bj20 : Bod := ("com/example/apportion/apportion/JobsByStart", "join", prog_103_method_14_code, 2, some (.object "com/example/apportion/apportion/JobsByStart$Node"), ({ frames := 0, cells := 0, slots := 0, locals := 0 } : Room))
theorem joi20_n {l : Launch} {Z : State} {a0 : Array Value} (hw : HW Z a0) {n0 : Nat} {h : Heap} (JS : List Addr) (sf nf : Addr → Int64) (J : JOK Z h JS sf nf) (v2 : Value) (js2 ws2 : List Addr) (T2 : TR Z n0 JS h 0 v2 js2 ws2) : OMet l (⟨"com/example/apportion/apportion/JobsByStart", "join", "(Lcom/example/apportion/apportion/JobsByStart$Node;Lcom/example/apportion/apportion/JobsByStart$Node;)Lcom/example/apportion/apportion/JobsByStart$Node;"⟩ : MethodName) Bj20 Z n0 #[.null, v2] h (fun r h' => JoiP Z n0 JS h h' 2 js2 ws2 r) := by
  refine OMet.of_wp (ls0 := #[.val .null, .val v2]) pl25 rfl rfl (fun m => by rcases ref_cases T2.isRef with rfl | ⟨_, rfl⟩ <;> exact own_entry 0 rfl rfl) ?_
  have hr_v2 := T2.isRef
  refine WP.aloadN d25_0 rfl rfl (pc' := 1) rfl ?_
  refine WP.ifnonnullN d25_1 (pc' := 4) rfl ?_
  refine WP.aloadN d25_4 rfl hr_v2 (pc' := 5) rfl ?_
  exact WP.retA d25_5 rfl rfl hr_v2 (by decide) (by decide) ⟨_, _, rfl, T2.le (by decide), .refl _, Keep.refl _ _⟩
theorem joi20_rn {l : Launch} {Z : State} {a0 : Array Value} (hw : HW Z a0) {n0 : Nat} {h : Heap} (JS : List Addr) (sf nf : Addr → Int64) (J : JOK Z h JS sf nf) (a1 : Addr) (js1 ws1 : List Addr) (T1 : TR Z n0 JS h 2 (.ref a1) js1 ws1) : OMet l (⟨"com/example/apportion/apportion/JobsByStart", "join", "(Lcom/example/apportion/apportion/JobsByStart$Node;Lcom/example/apportion/apportion/JobsByStart$Node;)Lcom/example/apportion/apportion/JobsByStart$Node;"⟩ : MethodName) Bj20 Z n0 #[(.ref a1), .null] h (fun r h' => JoiP Z n0 JS h h' 2 js1 ws1 r) := by
  refine OMet.of_wp (ls0 := #[.val (.ref a1), .val .null]) pl25 rfl rfl (fun m => own_entry 0 rfl rfl) ?_
  refine WP.aloadN d25_0 rfl rfl (pc' := 1) rfl ?_
  refine WP.ifnonnullY d25_1 (pc' := 6) (by decide) ?_
  refine WP.aloadN d25_6 rfl rfl (pc' := 7) rfl ?_
  refine WP.ifnonnullN d25_7 (pc' := 10) rfl ?_
  refine WP.aloadN d25_10 rfl rfl (pc' := 11) rfl ?_
  exact WP.retA d25_11 rfl rfl rfl (by decide) (by decide) ⟨_, _, rfl, T1.le (by decide), .refl _, Keep.refl _ _⟩
theorem joi20 {l : Launch} {Z : State} {a0 : Array Value} (hw : HW Z a0) {n0 : Nat} {h : Heap} (JS : List Addr) (sf nf : Addr → Int64) (J : JOK Z h JS sf nf) (v1 v2 : Value) (js1 js2 ws1 ws2 : List Addr) (T1 : TR Z n0 JS h 2 v1 js1 ws1) (T2 : TR Z n0 JS h 0 v2 js2 ws2) (hnd : (ws1 ++ ws2).Nodup) : OMet l (⟨"com/example/apportion/apportion/JobsByStart", "join", "(Lcom/example/apportion/apportion/JobsByStart$Node;Lcom/example/apportion/apportion/JobsByStart$Node;)Lcom/example/apportion/apportion/JobsByStart$Node;"⟩ : MethodName) Bj20 Z n0 #[v1, v2] h (fun r h' => JoiP Z n0 JS h h' 2 (js1 ++ js2) (ws1 ++ ws2) r) := by
  have T1' := T1
  rw [show 2 = 1 + 1 from rfl, TR_succ] at T1'
  rcases T1' with ⟨rfl, rfl, rfl⟩ | ⟨a1, j, t, p, le, lv, rv, jl, jr, wl, wr, rfl, -⟩
  · exact joi20_n hw JS sf nf J v2 js2 ws2 T2
  · obtain ⟨rfl, rfl, rfl⟩ := T2
    simp only [List.append_nil]; exact joi20_rn (l := l) hw JS sf nf J a1 js1 ws1 T1
def Bj11 : Bod := ("com/example/apportion/apportion/JobsByStart", "join", prog_103_method_14_code, 2, some (.object "com/example/apportion/apportion/JobsByStart$Node"), ({ frames := 2, cells := 0, slots := 0, locals := 40 } : Room))
theorem joi11_n {l : Launch} {Z : State} {a0 : Array Value} (hw : HW Z a0) {n0 : Nat} {h : Heap} (JS : List Addr) (sf nf : Addr → Int64) (J : JOK Z h JS sf nf) (v2 : Value) (js2 ws2 : List Addr) (T2 : TR Z n0 JS h 1 v2 js2 ws2) : OMet l (⟨"com/example/apportion/apportion/JobsByStart", "join", "(Lcom/example/apportion/apportion/JobsByStart$Node;Lcom/example/apportion/apportion/JobsByStart$Node;)Lcom/example/apportion/apportion/JobsByStart$Node;"⟩ : MethodName) Bj11 Z n0 #[.null, v2] h (fun r h' => JoiP Z n0 JS h h' 2 js2 ws2 r) := by
  refine OMet.of_wp (ls0 := #[.val .null, .val v2]) pl25 rfl rfl (fun m => by rcases ref_cases T2.isRef with rfl | ⟨_, rfl⟩ <;> exact own_entry 0 rfl rfl) ?_
  have hr_v2 := T2.isRef
  refine WP.aloadN d25_0 rfl rfl (pc' := 1) rfl ?_
  refine WP.ifnonnullN d25_1 (pc' := 4) rfl ?_
  refine WP.aloadN d25_4 rfl hr_v2 (pc' := 5) rfl ?_
  exact WP.retA d25_5 rfl rfl hr_v2 (by decide) (by decide) ⟨_, _, rfl, T2.le (by decide), .refl _, Keep.refl _ _⟩
theorem joi11_rn {l : Launch} {Z : State} {a0 : Array Value} (hw : HW Z a0) {n0 : Nat} {h : Heap} (JS : List Addr) (sf nf : Addr → Int64) (J : JOK Z h JS sf nf) (a1 : Addr) (js1 ws1 : List Addr) (T1 : TR Z n0 JS h 1 (.ref a1) js1 ws1) : OMet l (⟨"com/example/apportion/apportion/JobsByStart", "join", "(Lcom/example/apportion/apportion/JobsByStart$Node;Lcom/example/apportion/apportion/JobsByStart$Node;)Lcom/example/apportion/apportion/JobsByStart$Node;"⟩ : MethodName) Bj11 Z n0 #[(.ref a1), .null] h (fun r h' => JoiP Z n0 JS h h' 2 js1 ws1 r) := by
  refine OMet.of_wp (ls0 := #[.val (.ref a1), .val .null]) pl25 rfl rfl (fun m => own_entry 0 rfl rfl) ?_
  refine WP.aloadN d25_0 rfl rfl (pc' := 1) rfl ?_
  refine WP.ifnonnullY d25_1 (pc' := 6) (by decide) ?_
  refine WP.aloadN d25_6 rfl rfl (pc' := 7) rfl ?_
  refine WP.ifnonnullN d25_7 (pc' := 10) rfl ?_
  refine WP.aloadN d25_10 rfl rfl (pc' := 11) rfl ?_
  exact WP.retA d25_11 rfl rfl rfl (by decide) (by decide) ⟨_, _, rfl, T1.le (by decide), .refl _, Keep.refl _ _⟩
theorem joi11_rr {l : Launch} {Z : State} {a0 : Array Value} (hw : HW Z a0) {n0 : Nat} {h : Heap} (JS : List Addr) (sf nf : Addr → Int64) (J : JOK Z h JS sf nf) (a1 a2 : Addr) (js1 js2 ws1 ws2 : List Addr) (T1 : TR Z n0 JS h (0 + 1) (.ref a1) js1 ws1) (T2 : TR Z n0 JS h (0 + 1) (.ref a2) js2 ws2) (hnd : (ws1 ++ ws2).Nodup) : OMet l (⟨"com/example/apportion/apportion/JobsByStart", "join", "(Lcom/example/apportion/apportion/JobsByStart$Node;Lcom/example/apportion/apportion/JobsByStart$Node;)Lcom/example/apportion/apportion/JobsByStart$Node;"⟩ : MethodName) Bj11 Z n0 #[(.ref a1), (.ref a2)] h (fun r h' => JoiP Z n0 JS h h' 2 (js1 ++ js2) (ws1 ++ ws2) r) := by
  refine OMet.of_wp (ls0 := #[.val (.ref a1), .val (.ref a2)]) pl25 rfl rfl (fun m => own_entry 0 rfl rfl) ?_
  have T1' := T1
  rw [TR_succ] at T1'
  rcases T1' with ⟨h0, -⟩ | ⟨a', j1, t1, p1, le1, lv1, rv1, jl1, jr1, wl1, wr1, ha, O_a1, hj1, ht1, g_a1, T_l1, T_r1, e1, ew1⟩
  · cases h0
  cases ha
  have hr_lv1 := T_l1.isRef
  have hr_rv1 := T_r1.isRef
  have m_a1 : a1 ∈ ws1 ++ ws2 := by simp [ew1]
  have T2' := T2
  rw [TR_succ] at T2'
  rcases T2' with ⟨h0, -⟩ | ⟨a', j2, t2, p2, le2, lv2, rv2, jl2, jr2, wl2, wr2, ha, O_a2, hj2, ht2, g_a2, T_l2, T_r2, e2, ew2⟩
  · cases h0
  cases ha
  have hr_lv2 := T_l2.isRef
  have hr_rv2 := T_r2.isRef
  have m_a2 : a2 ∈ ws1 ++ ws2 := by simp [ew2]
  obtain ⟨nd1, nd2, nd12⟩ := List.nodup_append.mp hnd
  have n12 : a1 ≠ a2 := nd12 a1 (by simp [ew1]) a2 (by simp [ew2])
  have n_a1_ws2 : a1 ∉ ws2 := fun q => nd12 a1 (by simp [ew1]) a1 q rfl
  have n_a2_ws1 : a2 ∉ ws1 := fun q => nd12 a2 q a2 (by simp [ew2]) rfl
  have hq1 : (a1 :: (wl1 ++ wr1)).Nodup := by rw [← ew1]; exact nd1
  have hn1 := List.nodup_cons.mp hq1
  have n_a1_wl1 : a1 ∉ wl1 := fun q => hn1.1 (by simp [q])
  have n_a1_wr1 : a1 ∉ wr1 := fun q => hn1.1 (by simp [q])
  obtain ⟨ndl1, ndr1, ndx1⟩ := List.nodup_append.mp hn1.2
  have hq2 : (a2 :: (wl2 ++ wr2)).Nodup := by rw [← ew2]; exact nd2
  have hn2 := List.nodup_cons.mp hq2
  have n_a2_wl2 : a2 ∉ wl2 := fun q => hn2.1 (by simp [q])
  have n_a2_wr2 : a2 ∉ wr2 := fun q => hn2.1 (by simp [q])
  obtain ⟨ndl2, ndr2, ndx2⟩ := List.nodup_append.mp hn2.2
  have KE : Keep h h (ws1 ++ ws2) := Keep.refl _ _
  refine WP.aloadN d25_0 rfl rfl (pc' := 1) rfl ?_
  refine WP.ifnonnullY d25_1 (pc' := 6) (by decide) ?_
  refine WP.aloadN d25_6 rfl rfl (pc' := 7) rfl ?_
  refine WP.ifnonnullY d25_7 (pc' := 12) (by decide) ?_
  refine WP.aloadN d25_12 rfl rfl (pc' := 13) rfl ?_
  refine WP.getf (i := 1) (v := (.long p1)) d25_13 (w138 hw) O_a1 rfl rfl (pc' := 16) rfl ?_
  refine WP.aloadN d25_16 rfl rfl (pc' := 17) rfl ?_
  refine WP.getf (i := 1) (v := (.long p2)) d25_17 (w138 hw) O_a2 rfl rfl (pc' := 20) rfl ?_
  refine WP.lcmpLe d25_20 rfl d25_21 (tgt := 42) (by decide) (pc' := 24) rfl (fun c20 => ?_) (fun c20 => ?_)
  ·
    refine WP.aloadN d25_42 rfl rfl (pc' := 43) rfl ?_
    refine WP.aloadN d25_43 rfl rfl (pc' := 44) rfl ?_
    refine WP.aloadN d25_44 rfl rfl (pc' := 45) rfl ?_
    refine WP.getf (i := 4) (v := lv2) d25_45 (w136 hw) O_a2 rfl rfl (pc' := 48) rfl ?_
    refine WP.callS (y := (⟨"com/example/apportion/apportion/JobsByStart", "join", "(Lcom/example/apportion/apportion/JobsByStart$Node;Lcom/example/apportion/apportion/JobsByStart$Node;)Lcom/example/apportion/apportion/JobsByStart$Node;"⟩ : MethodName)) (By := Bj10) (as := [(.ref a1), lv2]) (rest := [(.ref a2)]) d25_48 (w174 hw) (w175 hw) (w2 hw) (w176 hw) (by decide) (joi10 hw JS sf nf J (.ref a1) lv2 js1 jl2 ws1 wl2 T1 T_l2 (List.nodup_append.mpr ⟨nd1, ndl2, fun x hx y hy => nd12 x hx y (by simp [ew2, hy])⟩)) pd_9 rfl rfl rfl (by decide) (Nat.le_of_ble_eq_true rfl) (by decide) (by decide) (pc' := 51) rfl ?_
    rintro _ h1 ⟨v3, w3, rfl, T3, P3, Kc⟩
    have hsub : ∀ x ∈ ws1 ++ wl2, x ∈ ws1 ++ ws2 := fun x hx => by rcases List.mem_append.mp hx with q | q; exact List.mem_append.mpr (Or.inl q); exact List.mem_append.mpr (Or.inr (by rw [ew2]; simp [q]))
    have Eo : ∀ x ∈ ws1 ++ wl2, Exa Z h x "com/example/apportion/apportion/JobsByStart$Node" := fun x hx => by rcases List.mem_append.mp (hsub x hx) with q | q; exact (T1.nodes x q).1; exact (T2.nodes x q).1
    replace KE := KE.trans Kc (fun x hx => Or.inl (hsub x hx))
    replace J := J.keep Kc (J.offs Eo)
    have n_a_L : a2 ∉ ws1 ++ wl2 := fun q => by rcases List.mem_append.mp q with q | q; exact n_a2_ws1 q; exact n_a2_wl2 q
    replace O_a2 := O_a2.keep Kc n_a_L
    replace T_r2 := T_r2.keep Kc (fun x hx q => by rcases List.mem_append.mp q with q | q; exact nd12 x q x (by simp [ew2, hx]) rfl; exact ndx2 x q x hx rfl)
    have n_a2_w3 : a2 ∉ w3 := fun q => n_a_L (P3.mem_iff.mp q)
    have hr_v3 := T3.isRef
    show WP _ _ _ _ _ _ _ _ _ _ [v3, (.ref a2)]
    refine WP.putf (i := 4) d25_51 (w136 hw) O_a2 (lay_ND hw) (by decide) rfl (Or.inl (w137 hw)) (w105 hw) (t := (.object "com/example/apportion/apportion/JobsByStart$Node")) (by decide) (own_narR hr_v3) (own_fitR hr_v3) g_a2 (pc' := 54) rfl ?_
    intro h2 K3 O_n
    replace KE := KE.trans K3 (own_all (Or.inl m_a2) own_all0)
    replace J := J.keep K3 (fun z hz => (own_cons (J.off hz O_a2.1) own_nil))
    replace T3 := T3.keep K3 (fun z hz => (own_cons (fun q => n_a2_w3 (q ▸ hz)) own_nil))
    replace T_r2 := T_r2.keep K3 (fun z hz => (own_cons (fun q => n_a2_wr2 (q ▸ hz)) own_nil))
    replace O_a2 : Ob Z h2 a2 "com/example/apportion/apportion/JobsByStart$Node" L_ND [(.ref j2), (.long p2), (.ref t2), (.long le2), v3, rv2] := O_n
    clear O_n
    refine WP.aloadN d25_54 rfl rfl (pc' := 55) rfl ?_
    refine WP.callS (y := (⟨"com/example/apportion/apportion/JobsByStart", "pull", "(Lcom/example/apportion/apportion/JobsByStart$Node;)V"⟩ : MethodName)) (By := B18) (as := [(.ref a2)]) (rest := []) d25_55 (w139 hw) (w140 hw) (w2 hw) (w141 hw) (by decide) (pul_met hw JS sf nf J a2 j2 t2 p2 le2 v3 rv2 g_a2 hj2 O_a2 T3.ch T_r2.ch) pd_10 rfl rfl rfl (by decide) (Nat.le_of_ble_eq_true rfl) (by decide) (by decide) (pc' := 58) rfl ?_
    rintro _ h5 ⟨rfl, Kp, le_4, O_n⟩
    replace KE := KE.trans Kp (own_all (Or.inl m_a2) own_all0)
    replace J := J.keep Kp (fun z hz => (own_cons (J.off hz O_a2.1) own_nil))
    replace T3 := T3.keep Kp (fun z hz => (own_cons (fun q => n_a2_w3 (q ▸ hz)) own_nil))
    replace T_r2 := T_r2.keep Kp (fun z hz => (own_cons (fun q => n_a2_wr2 (q ▸ hz)) own_nil))
    replace O_a2 := O_n
    show WP _ _ _ _ _ _ _ _ _ _ []
    refine WP.aloadN d25_58 rfl rfl (pc' := 59) rfl ?_
    exact WP.retA d25_59 rfl rfl rfl (by decide) (by decide) ⟨_, _, rfl, Or.inr ⟨a2, j2, j2, p2, le_4, v3, rv2, _, _, _, _, rfl, O_a2, hj2, hj2, g_a2, (T3.le (by decide)), (T_r2.le (by decide)), by simp [e1, e2], rfl⟩, joiP2 ew2 P3, KE⟩
  refine WP.aloadN d25_24 rfl rfl (pc' := 25) rfl ?_
  refine WP.aloadN d25_25 rfl rfl (pc' := 26) rfl ?_
  refine WP.getf (i := 5) (v := rv1) d25_26 (w154 hw) O_a1 rfl rfl (pc' := 29) rfl ?_
  refine WP.aloadN d25_29 rfl rfl (pc' := 30) rfl ?_
  refine WP.callS (y := (⟨"com/example/apportion/apportion/JobsByStart", "join", "(Lcom/example/apportion/apportion/JobsByStart$Node;Lcom/example/apportion/apportion/JobsByStart$Node;)Lcom/example/apportion/apportion/JobsByStart$Node;"⟩ : MethodName)) (By := Bj01) (as := [rv1, (.ref a2)]) (rest := [(.ref a1)]) d25_30 (w174 hw) (w175 hw) (w2 hw) (w176 hw) (by decide) (joi01 hw JS sf nf J rv1 (.ref a2) jr1 js2 wr1 ws2 T_r1 T2 (List.nodup_append.mpr ⟨ndr1, nd2, fun x hx y hy => nd12 x (by simp [ew1, hx]) y hy⟩)) pd_9 rfl rfl rfl (by decide) (Nat.le_of_ble_eq_true rfl) (by decide) (by decide) (pc' := 33) rfl ?_
  rintro _ h6 ⟨v3, w3, rfl, T3, P3, Kc⟩
  have hsub : ∀ x ∈ wr1 ++ ws2, x ∈ ws1 ++ ws2 := fun x hx => by rcases List.mem_append.mp hx with q | q; exact List.mem_append.mpr (Or.inl (by rw [ew1]; simp [q])); exact List.mem_append.mpr (Or.inr q)
  have Eo : ∀ x ∈ wr1 ++ ws2, Exa Z h x "com/example/apportion/apportion/JobsByStart$Node" := fun x hx => by rcases List.mem_append.mp (hsub x hx) with q | q; exact (T1.nodes x q).1; exact (T2.nodes x q).1
  replace KE := KE.trans Kc (fun x hx => Or.inl (hsub x hx))
  replace J := J.keep Kc (J.offs Eo)
  have n_a_L : a1 ∉ wr1 ++ ws2 := fun q => by rcases List.mem_append.mp q with q | q; exact n_a1_wr1 q; exact n_a1_ws2 q
  replace O_a1 := O_a1.keep Kc n_a_L
  replace T_l1 := T_l1.keep Kc (fun x hx q => by rcases List.mem_append.mp q with q | q; exact ndx1 x hx x q rfl; exact nd12 x (by simp [ew1, hx]) x q rfl)
  have n_a1_w3 : a1 ∉ w3 := fun q => n_a_L (P3.mem_iff.mp q)
  have hr_v3 := T3.isRef
  show WP _ _ _ _ _ _ _ _ _ _ [v3, (.ref a1)]
  refine WP.putf (i := 5) d25_33 (w154 hw) O_a1 (lay_ND hw) (by decide) rfl (Or.inl (w155 hw)) (w105 hw) (t := (.object "com/example/apportion/apportion/JobsByStart$Node")) (by decide) (own_narR hr_v3) (own_fitR hr_v3) g_a1 (pc' := 36) rfl ?_
  intro h7 K8 O_n
  replace KE := KE.trans K8 (own_all (Or.inl m_a1) own_all0)
  replace J := J.keep K8 (fun z hz => (own_cons (J.off hz O_a1.1) own_nil))
  replace T3 := T3.keep K8 (fun z hz => (own_cons (fun q => n_a1_w3 (q ▸ hz)) own_nil))
  replace T_l1 := T_l1.keep K8 (fun z hz => (own_cons (fun q => n_a1_wl1 (q ▸ hz)) own_nil))
  replace O_a1 : Ob Z h7 a1 "com/example/apportion/apportion/JobsByStart$Node" L_ND [(.ref j1), (.long p1), (.ref t1), (.long le1), lv1, v3] := O_n
  clear O_n
  refine WP.aloadN d25_36 rfl rfl (pc' := 37) rfl ?_
  refine WP.callS (y := (⟨"com/example/apportion/apportion/JobsByStart", "pull", "(Lcom/example/apportion/apportion/JobsByStart$Node;)V"⟩ : MethodName)) (By := B18) (as := [(.ref a1)]) (rest := []) d25_37 (w139 hw) (w140 hw) (w2 hw) (w141 hw) (by decide) (pul_met hw JS sf nf J a1 j1 t1 p1 le1 lv1 v3 g_a1 hj1 O_a1 T_l1.ch T3.ch) pd_10 rfl rfl rfl (by decide) (Nat.le_of_ble_eq_true rfl) (by decide) (by decide) (pc' := 40) rfl ?_
  rintro _ h10 ⟨rfl, Kp, le_9, O_n⟩
  replace KE := KE.trans Kp (own_all (Or.inl m_a1) own_all0)
  replace J := J.keep Kp (fun z hz => (own_cons (J.off hz O_a1.1) own_nil))
  replace T3 := T3.keep Kp (fun z hz => (own_cons (fun q => n_a1_w3 (q ▸ hz)) own_nil))
  replace T_l1 := T_l1.keep Kp (fun z hz => (own_cons (fun q => n_a1_wl1 (q ▸ hz)) own_nil))
  replace O_a1 := O_n
  show WP _ _ _ _ _ _ _ _ _ _ []
  refine WP.aloadN d25_40 rfl rfl (pc' := 41) rfl ?_
  exact WP.retA d25_41 rfl rfl rfl (by decide) (by decide) ⟨_, _, rfl, Or.inr ⟨a1, j1, j1, p1, le_9, lv1, v3, _, _, _, _, rfl, O_a1, hj1, hj1, g_a1, (T_l1.le (by decide)), (T3.le (by decide)), by simp [e1, e2], rfl⟩, joiP1 ew1 P3, KE⟩
theorem joi11 {l : Launch} {Z : State} {a0 : Array Value} (hw : HW Z a0) {n0 : Nat} {h : Heap} (JS : List Addr) (sf nf : Addr → Int64) (J : JOK Z h JS sf nf) (v1 v2 : Value) (js1 js2 ws1 ws2 : List Addr) (T1 : TR Z n0 JS h 1 v1 js1 ws1) (T2 : TR Z n0 JS h 1 v2 js2 ws2) (hnd : (ws1 ++ ws2).Nodup) : OMet l (⟨"com/example/apportion/apportion/JobsByStart", "join", "(Lcom/example/apportion/apportion/JobsByStart$Node;Lcom/example/apportion/apportion/JobsByStart$Node;)Lcom/example/apportion/apportion/JobsByStart$Node;"⟩ : MethodName) Bj11 Z n0 #[v1, v2] h (fun r h' => JoiP Z n0 JS h h' 2 (js1 ++ js2) (ws1 ++ ws2) r) := by
  have T1' := T1
  rw [show 1 = 0 + 1 from rfl, TR_succ] at T1'
  rcases T1' with ⟨rfl, rfl, rfl⟩ | ⟨a1, j, t, p, le, lv, rv, jl, jr, wl, wr, rfl, -⟩
  · exact joi11_n hw JS sf nf J v2 js2 ws2 T2
  · have T2' := T2
    rw [show 1 = 0 + 1 from rfl, TR_succ] at T2'
    rcases T2' with ⟨rfl, rfl, rfl⟩ | ⟨a2, j, t, p, le, lv, rv, jl, jr, wl, wr, rfl, -⟩
    · simp only [List.append_nil]; exact joi11_rn (l := l) hw JS sf nf J a1 js1 ws1 T1
    · exact joi11_rr hw JS sf nf J a1 a2 js1 js2 ws1 ws2 T1 T2 hnd
def Bj12 : Bod := ("com/example/apportion/apportion/JobsByStart", "join", prog_103_method_14_code, 2, some (.object "com/example/apportion/apportion/JobsByStart$Node"), ({ frames := 3, cells := 0, slots := 0, locals := 60 } : Room))
theorem joi12_n {l : Launch} {Z : State} {a0 : Array Value} (hw : HW Z a0) {n0 : Nat} {h : Heap} (JS : List Addr) (sf nf : Addr → Int64) (J : JOK Z h JS sf nf) (v2 : Value) (js2 ws2 : List Addr) (T2 : TR Z n0 JS h 2 v2 js2 ws2) : OMet l (⟨"com/example/apportion/apportion/JobsByStart", "join", "(Lcom/example/apportion/apportion/JobsByStart$Node;Lcom/example/apportion/apportion/JobsByStart$Node;)Lcom/example/apportion/apportion/JobsByStart$Node;"⟩ : MethodName) Bj12 Z n0 #[.null, v2] h (fun r h' => JoiP Z n0 JS h h' 3 js2 ws2 r) := by
  refine OMet.of_wp (ls0 := #[.val .null, .val v2]) pl25 rfl rfl (fun m => by rcases ref_cases T2.isRef with rfl | ⟨_, rfl⟩ <;> exact own_entry 0 rfl rfl) ?_
  have hr_v2 := T2.isRef
  refine WP.aloadN d25_0 rfl rfl (pc' := 1) rfl ?_
  refine WP.ifnonnullN d25_1 (pc' := 4) rfl ?_
  refine WP.aloadN d25_4 rfl hr_v2 (pc' := 5) rfl ?_
  exact WP.retA d25_5 rfl rfl hr_v2 (by decide) (by decide) ⟨_, _, rfl, T2.le (by decide), .refl _, Keep.refl _ _⟩
theorem joi12_rn {l : Launch} {Z : State} {a0 : Array Value} (hw : HW Z a0) {n0 : Nat} {h : Heap} (JS : List Addr) (sf nf : Addr → Int64) (J : JOK Z h JS sf nf) (a1 : Addr) (js1 ws1 : List Addr) (T1 : TR Z n0 JS h 1 (.ref a1) js1 ws1) : OMet l (⟨"com/example/apportion/apportion/JobsByStart", "join", "(Lcom/example/apportion/apportion/JobsByStart$Node;Lcom/example/apportion/apportion/JobsByStart$Node;)Lcom/example/apportion/apportion/JobsByStart$Node;"⟩ : MethodName) Bj12 Z n0 #[(.ref a1), .null] h (fun r h' => JoiP Z n0 JS h h' 3 js1 ws1 r) := by
  refine OMet.of_wp (ls0 := #[.val (.ref a1), .val .null]) pl25 rfl rfl (fun m => own_entry 0 rfl rfl) ?_
  refine WP.aloadN d25_0 rfl rfl (pc' := 1) rfl ?_
  refine WP.ifnonnullY d25_1 (pc' := 6) (by decide) ?_
  refine WP.aloadN d25_6 rfl rfl (pc' := 7) rfl ?_
  refine WP.ifnonnullN d25_7 (pc' := 10) rfl ?_
  refine WP.aloadN d25_10 rfl rfl (pc' := 11) rfl ?_
  exact WP.retA d25_11 rfl rfl rfl (by decide) (by decide) ⟨_, _, rfl, T1.le (by decide), .refl _, Keep.refl _ _⟩
theorem joi12_rr {l : Launch} {Z : State} {a0 : Array Value} (hw : HW Z a0) {n0 : Nat} {h : Heap} (JS : List Addr) (sf nf : Addr → Int64) (J : JOK Z h JS sf nf) (a1 a2 : Addr) (js1 js2 ws1 ws2 : List Addr) (T1 : TR Z n0 JS h (0 + 1) (.ref a1) js1 ws1) (T2 : TR Z n0 JS h (1 + 1) (.ref a2) js2 ws2) (hnd : (ws1 ++ ws2).Nodup) : OMet l (⟨"com/example/apportion/apportion/JobsByStart", "join", "(Lcom/example/apportion/apportion/JobsByStart$Node;Lcom/example/apportion/apportion/JobsByStart$Node;)Lcom/example/apportion/apportion/JobsByStart$Node;"⟩ : MethodName) Bj12 Z n0 #[(.ref a1), (.ref a2)] h (fun r h' => JoiP Z n0 JS h h' 3 (js1 ++ js2) (ws1 ++ ws2) r) := by
  refine OMet.of_wp (ls0 := #[.val (.ref a1), .val (.ref a2)]) pl25 rfl rfl (fun m => own_entry 0 rfl rfl) ?_
  have T1' := T1
  rw [TR_succ] at T1'
  rcases T1' with ⟨h0, -⟩ | ⟨a', j1, t1, p1, le1, lv1, rv1, jl1, jr1, wl1, wr1, ha, O_a1, hj1, ht1, g_a1, T_l1, T_r1, e1, ew1⟩
  · cases h0
  cases ha
  have hr_lv1 := T_l1.isRef
  have hr_rv1 := T_r1.isRef
  have m_a1 : a1 ∈ ws1 ++ ws2 := by simp [ew1]
  have T2' := T2
  rw [TR_succ] at T2'
  rcases T2' with ⟨h0, -⟩ | ⟨a', j2, t2, p2, le2, lv2, rv2, jl2, jr2, wl2, wr2, ha, O_a2, hj2, ht2, g_a2, T_l2, T_r2, e2, ew2⟩
  · cases h0
  cases ha
  have hr_lv2 := T_l2.isRef
  have hr_rv2 := T_r2.isRef
  have m_a2 : a2 ∈ ws1 ++ ws2 := by simp [ew2]
  obtain ⟨nd1, nd2, nd12⟩ := List.nodup_append.mp hnd
  have n12 : a1 ≠ a2 := nd12 a1 (by simp [ew1]) a2 (by simp [ew2])
  have n_a1_ws2 : a1 ∉ ws2 := fun q => nd12 a1 (by simp [ew1]) a1 q rfl
  have n_a2_ws1 : a2 ∉ ws1 := fun q => nd12 a2 q a2 (by simp [ew2]) rfl
  have hq1 : (a1 :: (wl1 ++ wr1)).Nodup := by rw [← ew1]; exact nd1
  have hn1 := List.nodup_cons.mp hq1
  have n_a1_wl1 : a1 ∉ wl1 := fun q => hn1.1 (by simp [q])
  have n_a1_wr1 : a1 ∉ wr1 := fun q => hn1.1 (by simp [q])
  obtain ⟨ndl1, ndr1, ndx1⟩ := List.nodup_append.mp hn1.2
  have hq2 : (a2 :: (wl2 ++ wr2)).Nodup := by rw [← ew2]; exact nd2
  have hn2 := List.nodup_cons.mp hq2
  have n_a2_wl2 : a2 ∉ wl2 := fun q => hn2.1 (by simp [q])
  have n_a2_wr2 : a2 ∉ wr2 := fun q => hn2.1 (by simp [q])
  obtain ⟨ndl2, ndr2, ndx2⟩ := List.nodup_append.mp hn2.2
  have KE : Keep h h (ws1 ++ ws2) := Keep.refl _ _
  refine WP.aloadN d25_0 rfl rfl (pc' := 1) rfl ?_
  refine WP.ifnonnullY d25_1 (pc' := 6) (by decide) ?_
  refine WP.aloadN d25_6 rfl rfl (pc' := 7) rfl ?_
  refine WP.ifnonnullY d25_7 (pc' := 12) (by decide) ?_
  refine WP.aloadN d25_12 rfl rfl (pc' := 13) rfl ?_
  refine WP.getf (i := 1) (v := (.long p1)) d25_13 (w138 hw) O_a1 rfl rfl (pc' := 16) rfl ?_
  refine WP.aloadN d25_16 rfl rfl (pc' := 17) rfl ?_
  refine WP.getf (i := 1) (v := (.long p2)) d25_17 (w138 hw) O_a2 rfl rfl (pc' := 20) rfl ?_
  refine WP.lcmpLe d25_20 rfl d25_21 (tgt := 42) (by decide) (pc' := 24) rfl (fun c20 => ?_) (fun c20 => ?_)
  ·
    refine WP.aloadN d25_42 rfl rfl (pc' := 43) rfl ?_
    refine WP.aloadN d25_43 rfl rfl (pc' := 44) rfl ?_
    refine WP.aloadN d25_44 rfl rfl (pc' := 45) rfl ?_
    refine WP.getf (i := 4) (v := lv2) d25_45 (w136 hw) O_a2 rfl rfl (pc' := 48) rfl ?_
    refine WP.callS (y := (⟨"com/example/apportion/apportion/JobsByStart", "join", "(Lcom/example/apportion/apportion/JobsByStart$Node;Lcom/example/apportion/apportion/JobsByStart$Node;)Lcom/example/apportion/apportion/JobsByStart$Node;"⟩ : MethodName)) (By := Bj11) (as := [(.ref a1), lv2]) (rest := [(.ref a2)]) d25_48 (w174 hw) (w175 hw) (w2 hw) (w176 hw) (by decide) (joi11 hw JS sf nf J (.ref a1) lv2 js1 jl2 ws1 wl2 T1 T_l2 (List.nodup_append.mpr ⟨nd1, ndl2, fun x hx y hy => nd12 x hx y (by simp [ew2, hy])⟩)) pd_9 rfl rfl rfl (by decide) (Nat.le_of_ble_eq_true rfl) (by decide) (by decide) (pc' := 51) rfl ?_
    rintro _ h1 ⟨v3, w3, rfl, T3, P3, Kc⟩
    have hsub : ∀ x ∈ ws1 ++ wl2, x ∈ ws1 ++ ws2 := fun x hx => by rcases List.mem_append.mp hx with q | q; exact List.mem_append.mpr (Or.inl q); exact List.mem_append.mpr (Or.inr (by rw [ew2]; simp [q]))
    have Eo : ∀ x ∈ ws1 ++ wl2, Exa Z h x "com/example/apportion/apportion/JobsByStart$Node" := fun x hx => by rcases List.mem_append.mp (hsub x hx) with q | q; exact (T1.nodes x q).1; exact (T2.nodes x q).1
    replace KE := KE.trans Kc (fun x hx => Or.inl (hsub x hx))
    replace J := J.keep Kc (J.offs Eo)
    have n_a_L : a2 ∉ ws1 ++ wl2 := fun q => by rcases List.mem_append.mp q with q | q; exact n_a2_ws1 q; exact n_a2_wl2 q
    replace O_a2 := O_a2.keep Kc n_a_L
    replace T_r2 := T_r2.keep Kc (fun x hx q => by rcases List.mem_append.mp q with q | q; exact nd12 x q x (by simp [ew2, hx]) rfl; exact ndx2 x q x hx rfl)
    have n_a2_w3 : a2 ∉ w3 := fun q => n_a_L (P3.mem_iff.mp q)
    have hr_v3 := T3.isRef
    show WP _ _ _ _ _ _ _ _ _ _ [v3, (.ref a2)]
    refine WP.putf (i := 4) d25_51 (w136 hw) O_a2 (lay_ND hw) (by decide) rfl (Or.inl (w137 hw)) (w105 hw) (t := (.object "com/example/apportion/apportion/JobsByStart$Node")) (by decide) (own_narR hr_v3) (own_fitR hr_v3) g_a2 (pc' := 54) rfl ?_
    intro h2 K3 O_n
    replace KE := KE.trans K3 (own_all (Or.inl m_a2) own_all0)
    replace J := J.keep K3 (fun z hz => (own_cons (J.off hz O_a2.1) own_nil))
    replace T3 := T3.keep K3 (fun z hz => (own_cons (fun q => n_a2_w3 (q ▸ hz)) own_nil))
    replace T_r2 := T_r2.keep K3 (fun z hz => (own_cons (fun q => n_a2_wr2 (q ▸ hz)) own_nil))
    replace O_a2 : Ob Z h2 a2 "com/example/apportion/apportion/JobsByStart$Node" L_ND [(.ref j2), (.long p2), (.ref t2), (.long le2), v3, rv2] := O_n
    clear O_n
    refine WP.aloadN d25_54 rfl rfl (pc' := 55) rfl ?_
    refine WP.callS (y := (⟨"com/example/apportion/apportion/JobsByStart", "pull", "(Lcom/example/apportion/apportion/JobsByStart$Node;)V"⟩ : MethodName)) (By := B18) (as := [(.ref a2)]) (rest := []) d25_55 (w139 hw) (w140 hw) (w2 hw) (w141 hw) (by decide) (pul_met hw JS sf nf J a2 j2 t2 p2 le2 v3 rv2 g_a2 hj2 O_a2 T3.ch T_r2.ch) pd_10 rfl rfl rfl (by decide) (Nat.le_of_ble_eq_true rfl) (by decide) (by decide) (pc' := 58) rfl ?_
    rintro _ h5 ⟨rfl, Kp, le_4, O_n⟩
    replace KE := KE.trans Kp (own_all (Or.inl m_a2) own_all0)
    replace J := J.keep Kp (fun z hz => (own_cons (J.off hz O_a2.1) own_nil))
    replace T3 := T3.keep Kp (fun z hz => (own_cons (fun q => n_a2_w3 (q ▸ hz)) own_nil))
    replace T_r2 := T_r2.keep Kp (fun z hz => (own_cons (fun q => n_a2_wr2 (q ▸ hz)) own_nil))
    replace O_a2 := O_n
    show WP _ _ _ _ _ _ _ _ _ _ []
    refine WP.aloadN d25_58 rfl rfl (pc' := 59) rfl ?_
    exact WP.retA d25_59 rfl rfl rfl (by decide) (by decide) ⟨_, _, rfl, Or.inr ⟨a2, j2, j2, p2, le_4, v3, rv2, _, _, _, _, rfl, O_a2, hj2, hj2, g_a2, (T3.le (by decide)), (T_r2.le (by decide)), by simp [e1, e2], rfl⟩, joiP2 ew2 P3, KE⟩
  refine WP.aloadN d25_24 rfl rfl (pc' := 25) rfl ?_
  refine WP.aloadN d25_25 rfl rfl (pc' := 26) rfl ?_
  refine WP.getf (i := 5) (v := rv1) d25_26 (w154 hw) O_a1 rfl rfl (pc' := 29) rfl ?_
  refine WP.aloadN d25_29 rfl rfl (pc' := 30) rfl ?_
  refine WP.callS (y := (⟨"com/example/apportion/apportion/JobsByStart", "join", "(Lcom/example/apportion/apportion/JobsByStart$Node;Lcom/example/apportion/apportion/JobsByStart$Node;)Lcom/example/apportion/apportion/JobsByStart$Node;"⟩ : MethodName)) (By := Bj02) (as := [rv1, (.ref a2)]) (rest := [(.ref a1)]) d25_30 (w174 hw) (w175 hw) (w2 hw) (w176 hw) (by decide) (joi02 hw JS sf nf J rv1 (.ref a2) jr1 js2 wr1 ws2 T_r1 T2 (List.nodup_append.mpr ⟨ndr1, nd2, fun x hx y hy => nd12 x (by simp [ew1, hx]) y hy⟩)) pd_9 rfl rfl rfl (by decide) (Nat.le_of_ble_eq_true rfl) (by decide) (by decide) (pc' := 33) rfl ?_
  rintro _ h6 ⟨v3, w3, rfl, T3, P3, Kc⟩
  have hsub : ∀ x ∈ wr1 ++ ws2, x ∈ ws1 ++ ws2 := fun x hx => by rcases List.mem_append.mp hx with q | q; exact List.mem_append.mpr (Or.inl (by rw [ew1]; simp [q])); exact List.mem_append.mpr (Or.inr q)
  have Eo : ∀ x ∈ wr1 ++ ws2, Exa Z h x "com/example/apportion/apportion/JobsByStart$Node" := fun x hx => by rcases List.mem_append.mp (hsub x hx) with q | q; exact (T1.nodes x q).1; exact (T2.nodes x q).1
  replace KE := KE.trans Kc (fun x hx => Or.inl (hsub x hx))
  replace J := J.keep Kc (J.offs Eo)
  have n_a_L : a1 ∉ wr1 ++ ws2 := fun q => by rcases List.mem_append.mp q with q | q; exact n_a1_wr1 q; exact n_a1_ws2 q
  replace O_a1 := O_a1.keep Kc n_a_L
  replace T_l1 := T_l1.keep Kc (fun x hx q => by rcases List.mem_append.mp q with q | q; exact ndx1 x hx x q rfl; exact nd12 x (by simp [ew1, hx]) x q rfl)
  have n_a1_w3 : a1 ∉ w3 := fun q => n_a_L (P3.mem_iff.mp q)
  have hr_v3 := T3.isRef
  show WP _ _ _ _ _ _ _ _ _ _ [v3, (.ref a1)]
  refine WP.putf (i := 5) d25_33 (w154 hw) O_a1 (lay_ND hw) (by decide) rfl (Or.inl (w155 hw)) (w105 hw) (t := (.object "com/example/apportion/apportion/JobsByStart$Node")) (by decide) (own_narR hr_v3) (own_fitR hr_v3) g_a1 (pc' := 36) rfl ?_
  intro h7 K8 O_n
  replace KE := KE.trans K8 (own_all (Or.inl m_a1) own_all0)
  replace J := J.keep K8 (fun z hz => (own_cons (J.off hz O_a1.1) own_nil))
  replace T3 := T3.keep K8 (fun z hz => (own_cons (fun q => n_a1_w3 (q ▸ hz)) own_nil))
  replace T_l1 := T_l1.keep K8 (fun z hz => (own_cons (fun q => n_a1_wl1 (q ▸ hz)) own_nil))
  replace O_a1 : Ob Z h7 a1 "com/example/apportion/apportion/JobsByStart$Node" L_ND [(.ref j1), (.long p1), (.ref t1), (.long le1), lv1, v3] := O_n
  clear O_n
  refine WP.aloadN d25_36 rfl rfl (pc' := 37) rfl ?_
  refine WP.callS (y := (⟨"com/example/apportion/apportion/JobsByStart", "pull", "(Lcom/example/apportion/apportion/JobsByStart$Node;)V"⟩ : MethodName)) (By := B18) (as := [(.ref a1)]) (rest := []) d25_37 (w139 hw) (w140 hw) (w2 hw) (w141 hw) (by decide) (pul_met hw JS sf nf J a1 j1 t1 p1 le1 lv1 v3 g_a1 hj1 O_a1 T_l1.ch T3.ch) pd_10 rfl rfl rfl (by decide) (Nat.le_of_ble_eq_true rfl) (by decide) (by decide) (pc' := 40) rfl ?_
  rintro _ h10 ⟨rfl, Kp, le_9, O_n⟩
  replace KE := KE.trans Kp (own_all (Or.inl m_a1) own_all0)
  replace J := J.keep Kp (fun z hz => (own_cons (J.off hz O_a1.1) own_nil))
  replace T3 := T3.keep Kp (fun z hz => (own_cons (fun q => n_a1_w3 (q ▸ hz)) own_nil))
  replace T_l1 := T_l1.keep Kp (fun z hz => (own_cons (fun q => n_a1_wl1 (q ▸ hz)) own_nil))
  replace O_a1 := O_n
  show WP _ _ _ _ _ _ _ _ _ _ []
  refine WP.aloadN d25_40 rfl rfl (pc' := 41) rfl ?_
  exact WP.retA d25_41 rfl rfl rfl (by decide) (by decide) ⟨_, _, rfl, Or.inr ⟨a1, j1, j1, p1, le_9, lv1, v3, _, _, _, _, rfl, O_a1, hj1, hj1, g_a1, (T_l1.le (by decide)), (T3.le (by decide)), by simp [e1, e2], rfl⟩, joiP1 ew1 P3, KE⟩
theorem joi12 {l : Launch} {Z : State} {a0 : Array Value} (hw : HW Z a0) {n0 : Nat} {h : Heap} (JS : List Addr) (sf nf : Addr → Int64) (J : JOK Z h JS sf nf) (v1 v2 : Value) (js1 js2 ws1 ws2 : List Addr) (T1 : TR Z n0 JS h 1 v1 js1 ws1) (T2 : TR Z n0 JS h 2 v2 js2 ws2) (hnd : (ws1 ++ ws2).Nodup) : OMet l (⟨"com/example/apportion/apportion/JobsByStart", "join", "(Lcom/example/apportion/apportion/JobsByStart$Node;Lcom/example/apportion/apportion/JobsByStart$Node;)Lcom/example/apportion/apportion/JobsByStart$Node;"⟩ : MethodName) Bj12 Z n0 #[v1, v2] h (fun r h' => JoiP Z n0 JS h h' 3 (js1 ++ js2) (ws1 ++ ws2) r) := by
  have T1' := T1
  rw [show 1 = 0 + 1 from rfl, TR_succ] at T1'
  rcases T1' with ⟨rfl, rfl, rfl⟩ | ⟨a1, j, t, p, le, lv, rv, jl, jr, wl, wr, rfl, -⟩
  · exact joi12_n hw JS sf nf J v2 js2 ws2 T2
  · have T2' := T2
    rw [show 2 = 1 + 1 from rfl, TR_succ] at T2'
    rcases T2' with ⟨rfl, rfl, rfl⟩ | ⟨a2, j, t, p, le, lv, rv, jl, jr, wl, wr, rfl, -⟩
    · simp only [List.append_nil]; exact joi12_rn (l := l) hw JS sf nf J a1 js1 ws1 T1
    · exact joi12_rr hw JS sf nf J a1 a2 js1 js2 ws1 ws2 T1 T2 hnd
def Bj21 : Bod := ("com/example/apportion/apportion/JobsByStart", "join", prog_103_method_14_code, 2, some (.object "com/example/apportion/apportion/JobsByStart$Node"), ({ frames := 3, cells := 0, slots := 0, locals := 60 } : Room))
theorem joi21_n {l : Launch} {Z : State} {a0 : Array Value} (hw : HW Z a0) {n0 : Nat} {h : Heap} (JS : List Addr) (sf nf : Addr → Int64) (J : JOK Z h JS sf nf) (v2 : Value) (js2 ws2 : List Addr) (T2 : TR Z n0 JS h 1 v2 js2 ws2) : OMet l (⟨"com/example/apportion/apportion/JobsByStart", "join", "(Lcom/example/apportion/apportion/JobsByStart$Node;Lcom/example/apportion/apportion/JobsByStart$Node;)Lcom/example/apportion/apportion/JobsByStart$Node;"⟩ : MethodName) Bj21 Z n0 #[.null, v2] h (fun r h' => JoiP Z n0 JS h h' 3 js2 ws2 r) := by
  refine OMet.of_wp (ls0 := #[.val .null, .val v2]) pl25 rfl rfl (fun m => by rcases ref_cases T2.isRef with rfl | ⟨_, rfl⟩ <;> exact own_entry 0 rfl rfl) ?_
  have hr_v2 := T2.isRef
  refine WP.aloadN d25_0 rfl rfl (pc' := 1) rfl ?_
  refine WP.ifnonnullN d25_1 (pc' := 4) rfl ?_
  refine WP.aloadN d25_4 rfl hr_v2 (pc' := 5) rfl ?_
  exact WP.retA d25_5 rfl rfl hr_v2 (by decide) (by decide) ⟨_, _, rfl, T2.le (by decide), .refl _, Keep.refl _ _⟩
theorem joi21_rn {l : Launch} {Z : State} {a0 : Array Value} (hw : HW Z a0) {n0 : Nat} {h : Heap} (JS : List Addr) (sf nf : Addr → Int64) (J : JOK Z h JS sf nf) (a1 : Addr) (js1 ws1 : List Addr) (T1 : TR Z n0 JS h 2 (.ref a1) js1 ws1) : OMet l (⟨"com/example/apportion/apportion/JobsByStart", "join", "(Lcom/example/apportion/apportion/JobsByStart$Node;Lcom/example/apportion/apportion/JobsByStart$Node;)Lcom/example/apportion/apportion/JobsByStart$Node;"⟩ : MethodName) Bj21 Z n0 #[(.ref a1), .null] h (fun r h' => JoiP Z n0 JS h h' 3 js1 ws1 r) := by
  refine OMet.of_wp (ls0 := #[.val (.ref a1), .val .null]) pl25 rfl rfl (fun m => own_entry 0 rfl rfl) ?_
  refine WP.aloadN d25_0 rfl rfl (pc' := 1) rfl ?_
  refine WP.ifnonnullY d25_1 (pc' := 6) (by decide) ?_
  refine WP.aloadN d25_6 rfl rfl (pc' := 7) rfl ?_
  refine WP.ifnonnullN d25_7 (pc' := 10) rfl ?_
  refine WP.aloadN d25_10 rfl rfl (pc' := 11) rfl ?_
  exact WP.retA d25_11 rfl rfl rfl (by decide) (by decide) ⟨_, _, rfl, T1.le (by decide), .refl _, Keep.refl _ _⟩
theorem joi21_rr {l : Launch} {Z : State} {a0 : Array Value} (hw : HW Z a0) {n0 : Nat} {h : Heap} (JS : List Addr) (sf nf : Addr → Int64) (J : JOK Z h JS sf nf) (a1 a2 : Addr) (js1 js2 ws1 ws2 : List Addr) (T1 : TR Z n0 JS h (1 + 1) (.ref a1) js1 ws1) (T2 : TR Z n0 JS h (0 + 1) (.ref a2) js2 ws2) (hnd : (ws1 ++ ws2).Nodup) : OMet l (⟨"com/example/apportion/apportion/JobsByStart", "join", "(Lcom/example/apportion/apportion/JobsByStart$Node;Lcom/example/apportion/apportion/JobsByStart$Node;)Lcom/example/apportion/apportion/JobsByStart$Node;"⟩ : MethodName) Bj21 Z n0 #[(.ref a1), (.ref a2)] h (fun r h' => JoiP Z n0 JS h h' 3 (js1 ++ js2) (ws1 ++ ws2) r) := by
  refine OMet.of_wp (ls0 := #[.val (.ref a1), .val (.ref a2)]) pl25 rfl rfl (fun m => own_entry 0 rfl rfl) ?_
  have T1' := T1
  rw [TR_succ] at T1'
  rcases T1' with ⟨h0, -⟩ | ⟨a', j1, t1, p1, le1, lv1, rv1, jl1, jr1, wl1, wr1, ha, O_a1, hj1, ht1, g_a1, T_l1, T_r1, e1, ew1⟩
  · cases h0
  cases ha
  have hr_lv1 := T_l1.isRef
  have hr_rv1 := T_r1.isRef
  have m_a1 : a1 ∈ ws1 ++ ws2 := by simp [ew1]
  have T2' := T2
  rw [TR_succ] at T2'
  rcases T2' with ⟨h0, -⟩ | ⟨a', j2, t2, p2, le2, lv2, rv2, jl2, jr2, wl2, wr2, ha, O_a2, hj2, ht2, g_a2, T_l2, T_r2, e2, ew2⟩
  · cases h0
  cases ha
  have hr_lv2 := T_l2.isRef
  have hr_rv2 := T_r2.isRef
  have m_a2 : a2 ∈ ws1 ++ ws2 := by simp [ew2]
  obtain ⟨nd1, nd2, nd12⟩ := List.nodup_append.mp hnd
  have n12 : a1 ≠ a2 := nd12 a1 (by simp [ew1]) a2 (by simp [ew2])
  have n_a1_ws2 : a1 ∉ ws2 := fun q => nd12 a1 (by simp [ew1]) a1 q rfl
  have n_a2_ws1 : a2 ∉ ws1 := fun q => nd12 a2 q a2 (by simp [ew2]) rfl
  have hq1 : (a1 :: (wl1 ++ wr1)).Nodup := by rw [← ew1]; exact nd1
  have hn1 := List.nodup_cons.mp hq1
  have n_a1_wl1 : a1 ∉ wl1 := fun q => hn1.1 (by simp [q])
  have n_a1_wr1 : a1 ∉ wr1 := fun q => hn1.1 (by simp [q])
  obtain ⟨ndl1, ndr1, ndx1⟩ := List.nodup_append.mp hn1.2
  have hq2 : (a2 :: (wl2 ++ wr2)).Nodup := by rw [← ew2]; exact nd2
  have hn2 := List.nodup_cons.mp hq2
  have n_a2_wl2 : a2 ∉ wl2 := fun q => hn2.1 (by simp [q])
  have n_a2_wr2 : a2 ∉ wr2 := fun q => hn2.1 (by simp [q])
  obtain ⟨ndl2, ndr2, ndx2⟩ := List.nodup_append.mp hn2.2
  have KE : Keep h h (ws1 ++ ws2) := Keep.refl _ _
  refine WP.aloadN d25_0 rfl rfl (pc' := 1) rfl ?_
  refine WP.ifnonnullY d25_1 (pc' := 6) (by decide) ?_
  refine WP.aloadN d25_6 rfl rfl (pc' := 7) rfl ?_
  refine WP.ifnonnullY d25_7 (pc' := 12) (by decide) ?_
  refine WP.aloadN d25_12 rfl rfl (pc' := 13) rfl ?_
  refine WP.getf (i := 1) (v := (.long p1)) d25_13 (w138 hw) O_a1 rfl rfl (pc' := 16) rfl ?_
  refine WP.aloadN d25_16 rfl rfl (pc' := 17) rfl ?_
  refine WP.getf (i := 1) (v := (.long p2)) d25_17 (w138 hw) O_a2 rfl rfl (pc' := 20) rfl ?_
  refine WP.lcmpLe d25_20 rfl d25_21 (tgt := 42) (by decide) (pc' := 24) rfl (fun c20 => ?_) (fun c20 => ?_)
  ·
    refine WP.aloadN d25_42 rfl rfl (pc' := 43) rfl ?_
    refine WP.aloadN d25_43 rfl rfl (pc' := 44) rfl ?_
    refine WP.aloadN d25_44 rfl rfl (pc' := 45) rfl ?_
    refine WP.getf (i := 4) (v := lv2) d25_45 (w136 hw) O_a2 rfl rfl (pc' := 48) rfl ?_
    refine WP.callS (y := (⟨"com/example/apportion/apportion/JobsByStart", "join", "(Lcom/example/apportion/apportion/JobsByStart$Node;Lcom/example/apportion/apportion/JobsByStart$Node;)Lcom/example/apportion/apportion/JobsByStart$Node;"⟩ : MethodName)) (By := Bj20) (as := [(.ref a1), lv2]) (rest := [(.ref a2)]) d25_48 (w174 hw) (w175 hw) (w2 hw) (w176 hw) (by decide) (joi20 hw JS sf nf J (.ref a1) lv2 js1 jl2 ws1 wl2 T1 T_l2 (List.nodup_append.mpr ⟨nd1, ndl2, fun x hx y hy => nd12 x hx y (by simp [ew2, hy])⟩)) pd_9 rfl rfl rfl (by decide) (Nat.le_of_ble_eq_true rfl) (by decide) (by decide) (pc' := 51) rfl ?_
    rintro _ h1 ⟨v3, w3, rfl, T3, P3, Kc⟩
    have hsub : ∀ x ∈ ws1 ++ wl2, x ∈ ws1 ++ ws2 := fun x hx => by rcases List.mem_append.mp hx with q | q; exact List.mem_append.mpr (Or.inl q); exact List.mem_append.mpr (Or.inr (by rw [ew2]; simp [q]))
    have Eo : ∀ x ∈ ws1 ++ wl2, Exa Z h x "com/example/apportion/apportion/JobsByStart$Node" := fun x hx => by rcases List.mem_append.mp (hsub x hx) with q | q; exact (T1.nodes x q).1; exact (T2.nodes x q).1
    replace KE := KE.trans Kc (fun x hx => Or.inl (hsub x hx))
    replace J := J.keep Kc (J.offs Eo)
    have n_a_L : a2 ∉ ws1 ++ wl2 := fun q => by rcases List.mem_append.mp q with q | q; exact n_a2_ws1 q; exact n_a2_wl2 q
    replace O_a2 := O_a2.keep Kc n_a_L
    replace T_r2 := T_r2.keep Kc (fun x hx q => by rcases List.mem_append.mp q with q | q; exact nd12 x q x (by simp [ew2, hx]) rfl; exact ndx2 x q x hx rfl)
    have n_a2_w3 : a2 ∉ w3 := fun q => n_a_L (P3.mem_iff.mp q)
    have hr_v3 := T3.isRef
    show WP _ _ _ _ _ _ _ _ _ _ [v3, (.ref a2)]
    refine WP.putf (i := 4) d25_51 (w136 hw) O_a2 (lay_ND hw) (by decide) rfl (Or.inl (w137 hw)) (w105 hw) (t := (.object "com/example/apportion/apportion/JobsByStart$Node")) (by decide) (own_narR hr_v3) (own_fitR hr_v3) g_a2 (pc' := 54) rfl ?_
    intro h2 K3 O_n
    replace KE := KE.trans K3 (own_all (Or.inl m_a2) own_all0)
    replace J := J.keep K3 (fun z hz => (own_cons (J.off hz O_a2.1) own_nil))
    replace T3 := T3.keep K3 (fun z hz => (own_cons (fun q => n_a2_w3 (q ▸ hz)) own_nil))
    replace T_r2 := T_r2.keep K3 (fun z hz => (own_cons (fun q => n_a2_wr2 (q ▸ hz)) own_nil))
    replace O_a2 : Ob Z h2 a2 "com/example/apportion/apportion/JobsByStart$Node" L_ND [(.ref j2), (.long p2), (.ref t2), (.long le2), v3, rv2] := O_n
    clear O_n
    refine WP.aloadN d25_54 rfl rfl (pc' := 55) rfl ?_
    refine WP.callS (y := (⟨"com/example/apportion/apportion/JobsByStart", "pull", "(Lcom/example/apportion/apportion/JobsByStart$Node;)V"⟩ : MethodName)) (By := B18) (as := [(.ref a2)]) (rest := []) d25_55 (w139 hw) (w140 hw) (w2 hw) (w141 hw) (by decide) (pul_met hw JS sf nf J a2 j2 t2 p2 le2 v3 rv2 g_a2 hj2 O_a2 T3.ch T_r2.ch) pd_10 rfl rfl rfl (by decide) (Nat.le_of_ble_eq_true rfl) (by decide) (by decide) (pc' := 58) rfl ?_
    rintro _ h5 ⟨rfl, Kp, le_4, O_n⟩
    replace KE := KE.trans Kp (own_all (Or.inl m_a2) own_all0)
    replace J := J.keep Kp (fun z hz => (own_cons (J.off hz O_a2.1) own_nil))
    replace T3 := T3.keep Kp (fun z hz => (own_cons (fun q => n_a2_w3 (q ▸ hz)) own_nil))
    replace T_r2 := T_r2.keep Kp (fun z hz => (own_cons (fun q => n_a2_wr2 (q ▸ hz)) own_nil))
    replace O_a2 := O_n
    show WP _ _ _ _ _ _ _ _ _ _ []
    refine WP.aloadN d25_58 rfl rfl (pc' := 59) rfl ?_
    exact WP.retA d25_59 rfl rfl rfl (by decide) (by decide) ⟨_, _, rfl, Or.inr ⟨a2, j2, j2, p2, le_4, v3, rv2, _, _, _, _, rfl, O_a2, hj2, hj2, g_a2, (T3.le (by decide)), (T_r2.le (by decide)), by simp [e1, e2], rfl⟩, joiP2 ew2 P3, KE⟩
  refine WP.aloadN d25_24 rfl rfl (pc' := 25) rfl ?_
  refine WP.aloadN d25_25 rfl rfl (pc' := 26) rfl ?_
  refine WP.getf (i := 5) (v := rv1) d25_26 (w154 hw) O_a1 rfl rfl (pc' := 29) rfl ?_
  refine WP.aloadN d25_29 rfl rfl (pc' := 30) rfl ?_
  refine WP.callS (y := (⟨"com/example/apportion/apportion/JobsByStart", "join", "(Lcom/example/apportion/apportion/JobsByStart$Node;Lcom/example/apportion/apportion/JobsByStart$Node;)Lcom/example/apportion/apportion/JobsByStart$Node;"⟩ : MethodName)) (By := Bj11) (as := [rv1, (.ref a2)]) (rest := [(.ref a1)]) d25_30 (w174 hw) (w175 hw) (w2 hw) (w176 hw) (by decide) (joi11 hw JS sf nf J rv1 (.ref a2) jr1 js2 wr1 ws2 T_r1 T2 (List.nodup_append.mpr ⟨ndr1, nd2, fun x hx y hy => nd12 x (by simp [ew1, hx]) y hy⟩)) pd_9 rfl rfl rfl (by decide) (Nat.le_of_ble_eq_true rfl) (by decide) (by decide) (pc' := 33) rfl ?_
  rintro _ h6 ⟨v3, w3, rfl, T3, P3, Kc⟩
  have hsub : ∀ x ∈ wr1 ++ ws2, x ∈ ws1 ++ ws2 := fun x hx => by rcases List.mem_append.mp hx with q | q; exact List.mem_append.mpr (Or.inl (by rw [ew1]; simp [q])); exact List.mem_append.mpr (Or.inr q)
  have Eo : ∀ x ∈ wr1 ++ ws2, Exa Z h x "com/example/apportion/apportion/JobsByStart$Node" := fun x hx => by rcases List.mem_append.mp (hsub x hx) with q | q; exact (T1.nodes x q).1; exact (T2.nodes x q).1
  replace KE := KE.trans Kc (fun x hx => Or.inl (hsub x hx))
  replace J := J.keep Kc (J.offs Eo)
  have n_a_L : a1 ∉ wr1 ++ ws2 := fun q => by rcases List.mem_append.mp q with q | q; exact n_a1_wr1 q; exact n_a1_ws2 q
  replace O_a1 := O_a1.keep Kc n_a_L
  replace T_l1 := T_l1.keep Kc (fun x hx q => by rcases List.mem_append.mp q with q | q; exact ndx1 x hx x q rfl; exact nd12 x (by simp [ew1, hx]) x q rfl)
  have n_a1_w3 : a1 ∉ w3 := fun q => n_a_L (P3.mem_iff.mp q)
  have hr_v3 := T3.isRef
  show WP _ _ _ _ _ _ _ _ _ _ [v3, (.ref a1)]
  refine WP.putf (i := 5) d25_33 (w154 hw) O_a1 (lay_ND hw) (by decide) rfl (Or.inl (w155 hw)) (w105 hw) (t := (.object "com/example/apportion/apportion/JobsByStart$Node")) (by decide) (own_narR hr_v3) (own_fitR hr_v3) g_a1 (pc' := 36) rfl ?_
  intro h7 K8 O_n
  replace KE := KE.trans K8 (own_all (Or.inl m_a1) own_all0)
  replace J := J.keep K8 (fun z hz => (own_cons (J.off hz O_a1.1) own_nil))
  replace T3 := T3.keep K8 (fun z hz => (own_cons (fun q => n_a1_w3 (q ▸ hz)) own_nil))
  replace T_l1 := T_l1.keep K8 (fun z hz => (own_cons (fun q => n_a1_wl1 (q ▸ hz)) own_nil))
  replace O_a1 : Ob Z h7 a1 "com/example/apportion/apportion/JobsByStart$Node" L_ND [(.ref j1), (.long p1), (.ref t1), (.long le1), lv1, v3] := O_n
  clear O_n
  refine WP.aloadN d25_36 rfl rfl (pc' := 37) rfl ?_
  refine WP.callS (y := (⟨"com/example/apportion/apportion/JobsByStart", "pull", "(Lcom/example/apportion/apportion/JobsByStart$Node;)V"⟩ : MethodName)) (By := B18) (as := [(.ref a1)]) (rest := []) d25_37 (w139 hw) (w140 hw) (w2 hw) (w141 hw) (by decide) (pul_met hw JS sf nf J a1 j1 t1 p1 le1 lv1 v3 g_a1 hj1 O_a1 T_l1.ch T3.ch) pd_10 rfl rfl rfl (by decide) (Nat.le_of_ble_eq_true rfl) (by decide) (by decide) (pc' := 40) rfl ?_
  rintro _ h10 ⟨rfl, Kp, le_9, O_n⟩
  replace KE := KE.trans Kp (own_all (Or.inl m_a1) own_all0)
  replace J := J.keep Kp (fun z hz => (own_cons (J.off hz O_a1.1) own_nil))
  replace T3 := T3.keep Kp (fun z hz => (own_cons (fun q => n_a1_w3 (q ▸ hz)) own_nil))
  replace T_l1 := T_l1.keep Kp (fun z hz => (own_cons (fun q => n_a1_wl1 (q ▸ hz)) own_nil))
  replace O_a1 := O_n
  show WP _ _ _ _ _ _ _ _ _ _ []
  refine WP.aloadN d25_40 rfl rfl (pc' := 41) rfl ?_
  exact WP.retA d25_41 rfl rfl rfl (by decide) (by decide) ⟨_, _, rfl, Or.inr ⟨a1, j1, j1, p1, le_9, lv1, v3, _, _, _, _, rfl, O_a1, hj1, hj1, g_a1, (T_l1.le (by decide)), (T3.le (by decide)), by simp [e1, e2], rfl⟩, joiP1 ew1 P3, KE⟩
theorem joi21 {l : Launch} {Z : State} {a0 : Array Value} (hw : HW Z a0) {n0 : Nat} {h : Heap} (JS : List Addr) (sf nf : Addr → Int64) (J : JOK Z h JS sf nf) (v1 v2 : Value) (js1 js2 ws1 ws2 : List Addr) (T1 : TR Z n0 JS h 2 v1 js1 ws1) (T2 : TR Z n0 JS h 1 v2 js2 ws2) (hnd : (ws1 ++ ws2).Nodup) : OMet l (⟨"com/example/apportion/apportion/JobsByStart", "join", "(Lcom/example/apportion/apportion/JobsByStart$Node;Lcom/example/apportion/apportion/JobsByStart$Node;)Lcom/example/apportion/apportion/JobsByStart$Node;"⟩ : MethodName) Bj21 Z n0 #[v1, v2] h (fun r h' => JoiP Z n0 JS h h' 3 (js1 ++ js2) (ws1 ++ ws2) r) := by
  have T1' := T1
  rw [show 2 = 1 + 1 from rfl, TR_succ] at T1'
  rcases T1' with ⟨rfl, rfl, rfl⟩ | ⟨a1, j, t, p, le, lv, rv, jl, jr, wl, wr, rfl, -⟩
  · exact joi21_n hw JS sf nf J v2 js2 ws2 T2
  · have T2' := T2
    rw [show 1 = 0 + 1 from rfl, TR_succ] at T2'
    rcases T2' with ⟨rfl, rfl, rfl⟩ | ⟨a2, j, t, p, le, lv, rv, jl, jr, wl, wr, rfl, -⟩
    · simp only [List.append_nil]; exact joi21_rn (l := l) hw JS sf nf J a1 js1 ws1 T1
    · exact joi21_rr hw JS sf nf J a1 a2 js1 js2 ws1 ws2 T1 T2 hnd
def Bj22 : Bod := ("com/example/apportion/apportion/JobsByStart", "join", prog_103_method_14_code, 2, some (.object "com/example/apportion/apportion/JobsByStart$Node"), ({ frames := 4, cells := 0, slots := 0, locals := 80 } : Room))
theorem joi22_n {l : Launch} {Z : State} {a0 : Array Value} (hw : HW Z a0) {n0 : Nat} {h : Heap} (JS : List Addr) (sf nf : Addr → Int64) (J : JOK Z h JS sf nf) (v2 : Value) (js2 ws2 : List Addr) (T2 : TR Z n0 JS h 2 v2 js2 ws2) : OMet l (⟨"com/example/apportion/apportion/JobsByStart", "join", "(Lcom/example/apportion/apportion/JobsByStart$Node;Lcom/example/apportion/apportion/JobsByStart$Node;)Lcom/example/apportion/apportion/JobsByStart$Node;"⟩ : MethodName) Bj22 Z n0 #[.null, v2] h (fun r h' => JoiP Z n0 JS h h' 4 js2 ws2 r) := by
  refine OMet.of_wp (ls0 := #[.val .null, .val v2]) pl25 rfl rfl (fun m => by rcases ref_cases T2.isRef with rfl | ⟨_, rfl⟩ <;> exact own_entry 0 rfl rfl) ?_
  have hr_v2 := T2.isRef
  refine WP.aloadN d25_0 rfl rfl (pc' := 1) rfl ?_
  refine WP.ifnonnullN d25_1 (pc' := 4) rfl ?_
  refine WP.aloadN d25_4 rfl hr_v2 (pc' := 5) rfl ?_
  exact WP.retA d25_5 rfl rfl hr_v2 (by decide) (by decide) ⟨_, _, rfl, T2.le (by decide), .refl _, Keep.refl _ _⟩
theorem joi22_rn {l : Launch} {Z : State} {a0 : Array Value} (hw : HW Z a0) {n0 : Nat} {h : Heap} (JS : List Addr) (sf nf : Addr → Int64) (J : JOK Z h JS sf nf) (a1 : Addr) (js1 ws1 : List Addr) (T1 : TR Z n0 JS h 2 (.ref a1) js1 ws1) : OMet l (⟨"com/example/apportion/apportion/JobsByStart", "join", "(Lcom/example/apportion/apportion/JobsByStart$Node;Lcom/example/apportion/apportion/JobsByStart$Node;)Lcom/example/apportion/apportion/JobsByStart$Node;"⟩ : MethodName) Bj22 Z n0 #[(.ref a1), .null] h (fun r h' => JoiP Z n0 JS h h' 4 js1 ws1 r) := by
  refine OMet.of_wp (ls0 := #[.val (.ref a1), .val .null]) pl25 rfl rfl (fun m => own_entry 0 rfl rfl) ?_
  refine WP.aloadN d25_0 rfl rfl (pc' := 1) rfl ?_
  refine WP.ifnonnullY d25_1 (pc' := 6) (by decide) ?_
  refine WP.aloadN d25_6 rfl rfl (pc' := 7) rfl ?_
  refine WP.ifnonnullN d25_7 (pc' := 10) rfl ?_
  refine WP.aloadN d25_10 rfl rfl (pc' := 11) rfl ?_
  exact WP.retA d25_11 rfl rfl rfl (by decide) (by decide) ⟨_, _, rfl, T1.le (by decide), .refl _, Keep.refl _ _⟩
theorem joi22_rr {l : Launch} {Z : State} {a0 : Array Value} (hw : HW Z a0) {n0 : Nat} {h : Heap} (JS : List Addr) (sf nf : Addr → Int64) (J : JOK Z h JS sf nf) (a1 a2 : Addr) (js1 js2 ws1 ws2 : List Addr) (T1 : TR Z n0 JS h (1 + 1) (.ref a1) js1 ws1) (T2 : TR Z n0 JS h (1 + 1) (.ref a2) js2 ws2) (hnd : (ws1 ++ ws2).Nodup) : OMet l (⟨"com/example/apportion/apportion/JobsByStart", "join", "(Lcom/example/apportion/apportion/JobsByStart$Node;Lcom/example/apportion/apportion/JobsByStart$Node;)Lcom/example/apportion/apportion/JobsByStart$Node;"⟩ : MethodName) Bj22 Z n0 #[(.ref a1), (.ref a2)] h (fun r h' => JoiP Z n0 JS h h' 4 (js1 ++ js2) (ws1 ++ ws2) r) := by
  refine OMet.of_wp (ls0 := #[.val (.ref a1), .val (.ref a2)]) pl25 rfl rfl (fun m => own_entry 0 rfl rfl) ?_
  have T1' := T1
  rw [TR_succ] at T1'
  rcases T1' with ⟨h0, -⟩ | ⟨a', j1, t1, p1, le1, lv1, rv1, jl1, jr1, wl1, wr1, ha, O_a1, hj1, ht1, g_a1, T_l1, T_r1, e1, ew1⟩
  · cases h0
  cases ha
  have hr_lv1 := T_l1.isRef
  have hr_rv1 := T_r1.isRef
  have m_a1 : a1 ∈ ws1 ++ ws2 := by simp [ew1]
  have T2' := T2
  rw [TR_succ] at T2'
  rcases T2' with ⟨h0, -⟩ | ⟨a', j2, t2, p2, le2, lv2, rv2, jl2, jr2, wl2, wr2, ha, O_a2, hj2, ht2, g_a2, T_l2, T_r2, e2, ew2⟩
  · cases h0
  cases ha
  have hr_lv2 := T_l2.isRef
  have hr_rv2 := T_r2.isRef
  have m_a2 : a2 ∈ ws1 ++ ws2 := by simp [ew2]
  obtain ⟨nd1, nd2, nd12⟩ := List.nodup_append.mp hnd
  have n12 : a1 ≠ a2 := nd12 a1 (by simp [ew1]) a2 (by simp [ew2])
  have n_a1_ws2 : a1 ∉ ws2 := fun q => nd12 a1 (by simp [ew1]) a1 q rfl
  have n_a2_ws1 : a2 ∉ ws1 := fun q => nd12 a2 q a2 (by simp [ew2]) rfl
  have hq1 : (a1 :: (wl1 ++ wr1)).Nodup := by rw [← ew1]; exact nd1
  have hn1 := List.nodup_cons.mp hq1
  have n_a1_wl1 : a1 ∉ wl1 := fun q => hn1.1 (by simp [q])
  have n_a1_wr1 : a1 ∉ wr1 := fun q => hn1.1 (by simp [q])
  obtain ⟨ndl1, ndr1, ndx1⟩ := List.nodup_append.mp hn1.2
  have hq2 : (a2 :: (wl2 ++ wr2)).Nodup := by rw [← ew2]; exact nd2
  have hn2 := List.nodup_cons.mp hq2
  have n_a2_wl2 : a2 ∉ wl2 := fun q => hn2.1 (by simp [q])
  have n_a2_wr2 : a2 ∉ wr2 := fun q => hn2.1 (by simp [q])
  obtain ⟨ndl2, ndr2, ndx2⟩ := List.nodup_append.mp hn2.2
  have KE : Keep h h (ws1 ++ ws2) := Keep.refl _ _
  refine WP.aloadN d25_0 rfl rfl (pc' := 1) rfl ?_
  refine WP.ifnonnullY d25_1 (pc' := 6) (by decide) ?_
  refine WP.aloadN d25_6 rfl rfl (pc' := 7) rfl ?_
  refine WP.ifnonnullY d25_7 (pc' := 12) (by decide) ?_
  refine WP.aloadN d25_12 rfl rfl (pc' := 13) rfl ?_
  refine WP.getf (i := 1) (v := (.long p1)) d25_13 (w138 hw) O_a1 rfl rfl (pc' := 16) rfl ?_
  refine WP.aloadN d25_16 rfl rfl (pc' := 17) rfl ?_
  refine WP.getf (i := 1) (v := (.long p2)) d25_17 (w138 hw) O_a2 rfl rfl (pc' := 20) rfl ?_
  refine WP.lcmpLe d25_20 rfl d25_21 (tgt := 42) (by decide) (pc' := 24) rfl (fun c20 => ?_) (fun c20 => ?_)
  ·
    refine WP.aloadN d25_42 rfl rfl (pc' := 43) rfl ?_
    refine WP.aloadN d25_43 rfl rfl (pc' := 44) rfl ?_
    refine WP.aloadN d25_44 rfl rfl (pc' := 45) rfl ?_
    refine WP.getf (i := 4) (v := lv2) d25_45 (w136 hw) O_a2 rfl rfl (pc' := 48) rfl ?_
    refine WP.callS (y := (⟨"com/example/apportion/apportion/JobsByStart", "join", "(Lcom/example/apportion/apportion/JobsByStart$Node;Lcom/example/apportion/apportion/JobsByStart$Node;)Lcom/example/apportion/apportion/JobsByStart$Node;"⟩ : MethodName)) (By := Bj21) (as := [(.ref a1), lv2]) (rest := [(.ref a2)]) d25_48 (w174 hw) (w175 hw) (w2 hw) (w176 hw) (by decide) (joi21 hw JS sf nf J (.ref a1) lv2 js1 jl2 ws1 wl2 T1 T_l2 (List.nodup_append.mpr ⟨nd1, ndl2, fun x hx y hy => nd12 x hx y (by simp [ew2, hy])⟩)) pd_9 rfl rfl rfl (by decide) (Nat.le_of_ble_eq_true rfl) (by decide) (by decide) (pc' := 51) rfl ?_
    rintro _ h1 ⟨v3, w3, rfl, T3, P3, Kc⟩
    have hsub : ∀ x ∈ ws1 ++ wl2, x ∈ ws1 ++ ws2 := fun x hx => by rcases List.mem_append.mp hx with q | q; exact List.mem_append.mpr (Or.inl q); exact List.mem_append.mpr (Or.inr (by rw [ew2]; simp [q]))
    have Eo : ∀ x ∈ ws1 ++ wl2, Exa Z h x "com/example/apportion/apportion/JobsByStart$Node" := fun x hx => by rcases List.mem_append.mp (hsub x hx) with q | q; exact (T1.nodes x q).1; exact (T2.nodes x q).1
    replace KE := KE.trans Kc (fun x hx => Or.inl (hsub x hx))
    replace J := J.keep Kc (J.offs Eo)
    have n_a_L : a2 ∉ ws1 ++ wl2 := fun q => by rcases List.mem_append.mp q with q | q; exact n_a2_ws1 q; exact n_a2_wl2 q
    replace O_a2 := O_a2.keep Kc n_a_L
    replace T_r2 := T_r2.keep Kc (fun x hx q => by rcases List.mem_append.mp q with q | q; exact nd12 x q x (by simp [ew2, hx]) rfl; exact ndx2 x q x hx rfl)
    have n_a2_w3 : a2 ∉ w3 := fun q => n_a_L (P3.mem_iff.mp q)
    have hr_v3 := T3.isRef
    show WP _ _ _ _ _ _ _ _ _ _ [v3, (.ref a2)]
    refine WP.putf (i := 4) d25_51 (w136 hw) O_a2 (lay_ND hw) (by decide) rfl (Or.inl (w137 hw)) (w105 hw) (t := (.object "com/example/apportion/apportion/JobsByStart$Node")) (by decide) (own_narR hr_v3) (own_fitR hr_v3) g_a2 (pc' := 54) rfl ?_
    intro h2 K3 O_n
    replace KE := KE.trans K3 (own_all (Or.inl m_a2) own_all0)
    replace J := J.keep K3 (fun z hz => (own_cons (J.off hz O_a2.1) own_nil))
    replace T3 := T3.keep K3 (fun z hz => (own_cons (fun q => n_a2_w3 (q ▸ hz)) own_nil))
    replace T_r2 := T_r2.keep K3 (fun z hz => (own_cons (fun q => n_a2_wr2 (q ▸ hz)) own_nil))
    replace O_a2 : Ob Z h2 a2 "com/example/apportion/apportion/JobsByStart$Node" L_ND [(.ref j2), (.long p2), (.ref t2), (.long le2), v3, rv2] := O_n
    clear O_n
    refine WP.aloadN d25_54 rfl rfl (pc' := 55) rfl ?_
    refine WP.callS (y := (⟨"com/example/apportion/apportion/JobsByStart", "pull", "(Lcom/example/apportion/apportion/JobsByStart$Node;)V"⟩ : MethodName)) (By := B18) (as := [(.ref a2)]) (rest := []) d25_55 (w139 hw) (w140 hw) (w2 hw) (w141 hw) (by decide) (pul_met hw JS sf nf J a2 j2 t2 p2 le2 v3 rv2 g_a2 hj2 O_a2 T3.ch T_r2.ch) pd_10 rfl rfl rfl (by decide) (Nat.le_of_ble_eq_true rfl) (by decide) (by decide) (pc' := 58) rfl ?_
    rintro _ h5 ⟨rfl, Kp, le_4, O_n⟩
    replace KE := KE.trans Kp (own_all (Or.inl m_a2) own_all0)
    replace J := J.keep Kp (fun z hz => (own_cons (J.off hz O_a2.1) own_nil))
    replace T3 := T3.keep Kp (fun z hz => (own_cons (fun q => n_a2_w3 (q ▸ hz)) own_nil))
    replace T_r2 := T_r2.keep Kp (fun z hz => (own_cons (fun q => n_a2_wr2 (q ▸ hz)) own_nil))
    replace O_a2 := O_n
    show WP _ _ _ _ _ _ _ _ _ _ []
    refine WP.aloadN d25_58 rfl rfl (pc' := 59) rfl ?_
    exact WP.retA d25_59 rfl rfl rfl (by decide) (by decide) ⟨_, _, rfl, Or.inr ⟨a2, j2, j2, p2, le_4, v3, rv2, _, _, _, _, rfl, O_a2, hj2, hj2, g_a2, (T3.le (by decide)), (T_r2.le (by decide)), by simp [e1, e2], rfl⟩, joiP2 ew2 P3, KE⟩
  refine WP.aloadN d25_24 rfl rfl (pc' := 25) rfl ?_
  refine WP.aloadN d25_25 rfl rfl (pc' := 26) rfl ?_
  refine WP.getf (i := 5) (v := rv1) d25_26 (w154 hw) O_a1 rfl rfl (pc' := 29) rfl ?_
  refine WP.aloadN d25_29 rfl rfl (pc' := 30) rfl ?_
  refine WP.callS (y := (⟨"com/example/apportion/apportion/JobsByStart", "join", "(Lcom/example/apportion/apportion/JobsByStart$Node;Lcom/example/apportion/apportion/JobsByStart$Node;)Lcom/example/apportion/apportion/JobsByStart$Node;"⟩ : MethodName)) (By := Bj12) (as := [rv1, (.ref a2)]) (rest := [(.ref a1)]) d25_30 (w174 hw) (w175 hw) (w2 hw) (w176 hw) (by decide) (joi12 hw JS sf nf J rv1 (.ref a2) jr1 js2 wr1 ws2 T_r1 T2 (List.nodup_append.mpr ⟨ndr1, nd2, fun x hx y hy => nd12 x (by simp [ew1, hx]) y hy⟩)) pd_9 rfl rfl rfl (by decide) (Nat.le_of_ble_eq_true rfl) (by decide) (by decide) (pc' := 33) rfl ?_
  rintro _ h6 ⟨v3, w3, rfl, T3, P3, Kc⟩
  have hsub : ∀ x ∈ wr1 ++ ws2, x ∈ ws1 ++ ws2 := fun x hx => by rcases List.mem_append.mp hx with q | q; exact List.mem_append.mpr (Or.inl (by rw [ew1]; simp [q])); exact List.mem_append.mpr (Or.inr q)
  have Eo : ∀ x ∈ wr1 ++ ws2, Exa Z h x "com/example/apportion/apportion/JobsByStart$Node" := fun x hx => by rcases List.mem_append.mp (hsub x hx) with q | q; exact (T1.nodes x q).1; exact (T2.nodes x q).1
  replace KE := KE.trans Kc (fun x hx => Or.inl (hsub x hx))
  replace J := J.keep Kc (J.offs Eo)
  have n_a_L : a1 ∉ wr1 ++ ws2 := fun q => by rcases List.mem_append.mp q with q | q; exact n_a1_wr1 q; exact n_a1_ws2 q
  replace O_a1 := O_a1.keep Kc n_a_L
  replace T_l1 := T_l1.keep Kc (fun x hx q => by rcases List.mem_append.mp q with q | q; exact ndx1 x hx x q rfl; exact nd12 x (by simp [ew1, hx]) x q rfl)
  have n_a1_w3 : a1 ∉ w3 := fun q => n_a_L (P3.mem_iff.mp q)
  have hr_v3 := T3.isRef
  show WP _ _ _ _ _ _ _ _ _ _ [v3, (.ref a1)]
  refine WP.putf (i := 5) d25_33 (w154 hw) O_a1 (lay_ND hw) (by decide) rfl (Or.inl (w155 hw)) (w105 hw) (t := (.object "com/example/apportion/apportion/JobsByStart$Node")) (by decide) (own_narR hr_v3) (own_fitR hr_v3) g_a1 (pc' := 36) rfl ?_
  intro h7 K8 O_n
  replace KE := KE.trans K8 (own_all (Or.inl m_a1) own_all0)
  replace J := J.keep K8 (fun z hz => (own_cons (J.off hz O_a1.1) own_nil))
  replace T3 := T3.keep K8 (fun z hz => (own_cons (fun q => n_a1_w3 (q ▸ hz)) own_nil))
  replace T_l1 := T_l1.keep K8 (fun z hz => (own_cons (fun q => n_a1_wl1 (q ▸ hz)) own_nil))
  replace O_a1 : Ob Z h7 a1 "com/example/apportion/apportion/JobsByStart$Node" L_ND [(.ref j1), (.long p1), (.ref t1), (.long le1), lv1, v3] := O_n
  clear O_n
  refine WP.aloadN d25_36 rfl rfl (pc' := 37) rfl ?_
  refine WP.callS (y := (⟨"com/example/apportion/apportion/JobsByStart", "pull", "(Lcom/example/apportion/apportion/JobsByStart$Node;)V"⟩ : MethodName)) (By := B18) (as := [(.ref a1)]) (rest := []) d25_37 (w139 hw) (w140 hw) (w2 hw) (w141 hw) (by decide) (pul_met hw JS sf nf J a1 j1 t1 p1 le1 lv1 v3 g_a1 hj1 O_a1 T_l1.ch T3.ch) pd_10 rfl rfl rfl (by decide) (Nat.le_of_ble_eq_true rfl) (by decide) (by decide) (pc' := 40) rfl ?_
  rintro _ h10 ⟨rfl, Kp, le_9, O_n⟩
  replace KE := KE.trans Kp (own_all (Or.inl m_a1) own_all0)
  replace J := J.keep Kp (fun z hz => (own_cons (J.off hz O_a1.1) own_nil))
  replace T3 := T3.keep Kp (fun z hz => (own_cons (fun q => n_a1_w3 (q ▸ hz)) own_nil))
  replace T_l1 := T_l1.keep Kp (fun z hz => (own_cons (fun q => n_a1_wl1 (q ▸ hz)) own_nil))
  replace O_a1 := O_n
  show WP _ _ _ _ _ _ _ _ _ _ []
  refine WP.aloadN d25_40 rfl rfl (pc' := 41) rfl ?_
  exact WP.retA d25_41 rfl rfl rfl (by decide) (by decide) ⟨_, _, rfl, Or.inr ⟨a1, j1, j1, p1, le_9, lv1, v3, _, _, _, _, rfl, O_a1, hj1, hj1, g_a1, (T_l1.le (by decide)), (T3.le (by decide)), by simp [e1, e2], rfl⟩, joiP1 ew1 P3, KE⟩
theorem joi22 {l : Launch} {Z : State} {a0 : Array Value} (hw : HW Z a0) {n0 : Nat} {h : Heap} (JS : List Addr) (sf nf : Addr → Int64) (J : JOK Z h JS sf nf) (v1 v2 : Value) (js1 js2 ws1 ws2 : List Addr) (T1 : TR Z n0 JS h 2 v1 js1 ws1) (T2 : TR Z n0 JS h 2 v2 js2 ws2) (hnd : (ws1 ++ ws2).Nodup) : OMet l (⟨"com/example/apportion/apportion/JobsByStart", "join", "(Lcom/example/apportion/apportion/JobsByStart$Node;Lcom/example/apportion/apportion/JobsByStart$Node;)Lcom/example/apportion/apportion/JobsByStart$Node;"⟩ : MethodName) Bj22 Z n0 #[v1, v2] h (fun r h' => JoiP Z n0 JS h h' 4 (js1 ++ js2) (ws1 ++ ws2) r) := by
  have T1' := T1
  rw [show 2 = 1 + 1 from rfl, TR_succ] at T1'
  rcases T1' with ⟨rfl, rfl, rfl⟩ | ⟨a1, j, t, p, le, lv, rv, jl, jr, wl, wr, rfl, -⟩
  · exact joi22_n hw JS sf nf J v2 js2 ws2 T2
  · have T2' := T2
    rw [show 2 = 1 + 1 from rfl, TR_succ] at T2'
    rcases T2' with ⟨rfl, rfl, rfl⟩ | ⟨a2, j, t, p, le, lv, rv, jl, jr, wl, wr, rfl, -⟩
    · simp only [List.append_nil]; exact joi22_rn (l := l) hw JS sf nf J a1 js1 ws1 T1
    · exact joi22_rr hw JS sf nf J a1 a2 js1 js2 ws1 ws2 T1 T2 hnd
def WouP (Z : State) (n0 : Nat) (JS : List Addr) (sf nf : Addr → Int64) (h h' : Heap) (f : Nat) (x : Addr) (js ws : List Addr) (r : Option Value) : Prop :=
  ∃ (v' : Value) (js' ws' : List Addr), r = some v' ∧ TR Z n0 JS h' f v' js' ws' ∧ js'.Pairwise (lt sf nf) ∧ (∀ y, y ∈ js' ↔ y ∈ js ∧ y ≠ x) ∧ (∀ y ∈ ws', y ∈ ws) ∧ Keep h h' ws
section T4
variable {sf nf : Addr → Int64} {js3 jl jr ws1 wl wr : List Addr} {j x : Addr}
theorem lt_irr : ¬ lt sf nf x x := by unfold lt; omega
theorem wouE (so : (jl ++ j :: jr).Pairwise (lt sf nf)) (e : j = x) : (jl ++ jr).Pairwise (lt sf nf) ∧ ∀ y, y ∈ jl ++ jr ↔ y ∈ jl ++ j :: jr ∧ y ≠ x := by
  subst e
  refine ⟨so.sublist ((List.sublist_cons_self j jr).append_left jl), fun y => ?_⟩
  obtain ⟨p1, p2, p3⟩ := List.pairwise_append.mp so
  obtain ⟨p4, p5⟩ := List.pairwise_cons.mp p2
  simp only [List.mem_append, List.mem_cons]
  constructor
  · rintro (q | q)
    · exact ⟨Or.inl q, fun e => lt_irr (e ▸ p3 y q j (by simp))⟩
    · exact ⟨Or.inr (Or.inr q), fun e => lt_irr (e ▸ p4 y q)⟩
  · rintro ⟨q | q | q, hn⟩
    · exact Or.inl q
    · exact absurd q hn
    · exact Or.inr q
theorem wouL (m : ∀ y, y ∈ js3 ↔ y ∈ jl ∧ y ≠ x) (s3 : js3.Pairwise (lt sf nf)) (so : (jl ++ j :: jr).Pairwise (lt sf nf)) (hq : lt sf nf x j) : (js3 ++ j :: jr).Pairwise (lt sf nf) ∧ ∀ y, y ∈ js3 ++ j :: jr ↔ y ∈ jl ++ j :: jr ∧ y ≠ x := by
  obtain ⟨p1, p2, p3⟩ := List.pairwise_append.mp so
  obtain ⟨p4, p5⟩ := List.pairwise_cons.mp p2
  refine ⟨List.pairwise_append.mpr ⟨s3, p2, fun y hy z hz => p3 y ((m y).mp hy).1 z hz⟩, fun y => ?_⟩
  simp only [List.mem_append, List.mem_cons, m]
  constructor
  · rintro (q | q | q)
    · exact ⟨Or.inl q.1, q.2⟩
    · exact ⟨Or.inr (Or.inl q), fun e => by rw [← e, q] at hq; exact lt_irr hq⟩
    · exact ⟨Or.inr (Or.inr q), fun e => lt_irr (lt_tr hq (e ▸ p4 y q))⟩
  · rintro ⟨q | q | q, hn⟩
    · exact Or.inl ⟨q, hn⟩
    · exact Or.inr (Or.inl q)
    · exact Or.inr (Or.inr q)
theorem wouR (m : ∀ y, y ∈ js3 ↔ y ∈ jr ∧ y ≠ x) (s3 : js3.Pairwise (lt sf nf)) (so : (jl ++ j :: jr).Pairwise (lt sf nf)) (hq : lt sf nf j x) : (jl ++ j :: js3).Pairwise (lt sf nf) ∧ ∀ y, y ∈ jl ++ j :: js3 ↔ y ∈ jl ++ j :: jr ∧ y ≠ x := by
  obtain ⟨p1, p2, p3⟩ := List.pairwise_append.mp so
  obtain ⟨p4, p5⟩ := List.pairwise_cons.mp p2
  refine ⟨List.pairwise_append.mpr ⟨p1, List.pairwise_cons.mpr ⟨fun y hy => p4 y ((m y).mp hy).1, s3⟩, fun y hy z hz => ?_⟩, fun y => ?_⟩
  · rcases List.mem_cons.mp hz with rfl | hz
    · exact p3 y hy _ (by simp)
    · exact p3 y hy z (by simp [((m z).mp hz).1])
  simp only [List.mem_append, List.mem_cons, m]
  constructor
  · rintro (q | q | q)
    · exact ⟨Or.inl q, fun e => lt_irr (lt_tr hq (e ▸ p3 y q j (by simp)))⟩
    · exact ⟨Or.inr (Or.inl q), fun e => by rw [← e, q] at hq; exact lt_irr hq⟩
    · exact ⟨Or.inr (Or.inr q.1), q.2⟩
  · rintro ⟨q | q | q, hn⟩
    · exact Or.inl q
    · exact Or.inr (Or.inl q)
    · exact Or.inr (Or.inr ⟨q, hn⟩)
end T4
def Bw1 : Bod := ("com/example/apportion/apportion/JobsByStart", "without", prog_103_method_13_code, 2, some (.object "com/example/apportion/apportion/JobsByStart$Node"), ({ frames := 1, cells := 0, slots := 0, locals := 20 } : Room))
theorem wou1_r {l : Launch} {Z : State} {a0 : Array Value} (hw : HW Z a0) {n0 : Nat} {h : Heap} (JS : List Addr) (sf nf : Addr → Int64) (J : JOK Z h JS sf nf) (a : Addr) (js ws : List Addr) (hT : TR Z n0 JS h (0 + 1) (.ref a) js ws) (hnd : ws.Nodup) (hso : js.Pairwise (lt sf nf)) (x : Addr) (hx : x ∈ js) : OMet l (⟨"com/example/apportion/apportion/JobsByStart", "without", "(Lcom/example/apportion/apportion/JobsByStart$Node;Lcom/example/apportion/apportion/GridJob;)Lcom/example/apportion/apportion/JobsByStart$Node;"⟩ : MethodName) Bw1 Z n0 #[(.ref a), (.ref x)] h (fun r h' => WouP Z n0 JS sf nf h h' 0 x js ws r) := by
  refine OMet.of_wp (ls0 := #[.val (.ref a), .val (.ref x)]) pl24 rfl rfl (fun m => own_entry 0 rfl rfl) ?_
  have hxJ := hT.jobs x hx
  rw [TR_succ] at hT
  rcases hT with ⟨h0, -⟩ | ⟨a', j, t, p, le, lv, rv, jl, jr, wl, wr, ha, O_a, hj, ht, g_a, T_l, T_r, rfl, rfl⟩
  · cases h0
  cases ha
  have hr_lv := T_l.isRef
  have hr_rv := T_r.isRef
  have hn' := List.nodup_cons.mp hnd
  have n_a_wl : a ∉ wl := fun q => hn'.1 (by simp [q])
  have n_a_wr : a ∉ wr := fun q => hn'.1 (by simp [q])
  obtain ⟨nd_l, nd_r, nd_lr⟩ := List.nodup_append.mp hn'.2
  obtain ⟨so_l, so_jr, so_x⟩ := List.pairwise_append.mp hso
  obtain ⟨so_j, so_r⟩ := List.pairwise_cons.mp so_jr
  have m_a : a ∈ a :: (wl ++ wr) := by simp
  have KE : Keep h h (a :: (wl ++ wr)) := Keep.refl _ _
  refine WP.aloadN d24_0 rfl rfl (pc' := 1) rfl ?_
  refine WP.getf (i := 0) (v := (.ref j)) d24_1 (w131 hw) O_a rfl rfl (pc' := 4) rfl ?_
  refine WP.aloadN d24_4 rfl rfl (pc' := 5) rfl ?_
  refine WP.acmpNe d24_5 (tgt := 20) (by decide) (pc' := 8) rfl rfl rfl (fun c5 => ?_) (fun c5 => ?_)
  ·
    have nj : j ≠ x := fun q => c5 (by rw [q])
    refine WP.aloadN d24_20 rfl rfl (pc' := 21) rfl ?_
    refine WP.aloadN d24_21 rfl rfl (pc' := 22) rfl ?_
    refine WP.getf (i := 0) (v := (.ref j)) d24_22 (w131 hw) O_a rfl rfl (pc' := 25) rfl ?_
    refine WP.callS (y := (⟨"com/example/apportion/apportion/JobsByStart", "precedes", "(Lcom/example/apportion/apportion/GridJob;Lcom/example/apportion/apportion/GridJob;)Z"⟩ : MethodName)) (By := B17) (as := [(.ref x), (.ref j)]) (rest := []) d24_25 (w132 hw) (w133 hw) (w2 hw) (w134 hw) (by decide) (pre_met hw x j _ _ _ _ (J x hxJ) (J j hj)) pd_8 rfl rfl rfl (by decide) (Nat.le_of_ble_eq_true rfl) (by decide) (by decide) (pc' := 28) rfl ?_
    rintro _ _ ⟨rfl, rp, rfl, hrp⟩
    show WP _ _ _ _ _ _ _ _ _ _ [(.int rp)]
    refine WP.ifEq d24_28 (tgt := 46) (by decide) (pc' := 31) rfl (fun c28 => ?_) (fun c28 => ?_)
    ·
      have hnq : ¬ lt sf nf x j := by unfold lt; omega
      have hxr : x ∈ jr := by
        rcases List.mem_append.mp hx with q | q
        · exact absurd (so_x x q j (by simp)) hnq
        · rcases List.mem_cons.mp q with q | q
          · exact absurd q.symm nj
          · exact q
      have hq : lt sf nf j x := so_j x hxr
      obtain ⟨-, q0, -⟩ := T_r; rw [q0] at hxr; cases hxr
    have hq : lt sf nf x j := by unfold lt; omega
    have hxl : x ∈ jl := by
      rcases List.mem_append.mp hx with q | q
      · exact q
      · rcases List.mem_cons.mp q with q | q
        · exact absurd q.symm nj
        · exact absurd (lt_tr hq (so_j x q)) lt_irr
    obtain ⟨-, q0, -⟩ := T_l; rw [q0] at hxl; cases hxl
  have ej : j = x := by injection c5
  refine WP.aloadN d24_8 rfl rfl (pc' := 9) rfl ?_
  refine WP.getf (i := 4) (v := lv) d24_9 (w136 hw) O_a rfl rfl (pc' := 12) rfl ?_
  refine WP.aloadN d24_12 rfl rfl (pc' := 13) rfl ?_
  refine WP.getf (i := 5) (v := rv) d24_13 (w154 hw) O_a rfl rfl (pc' := 16) rfl ?_
  refine WP.callS (y := (⟨"com/example/apportion/apportion/JobsByStart", "join", "(Lcom/example/apportion/apportion/JobsByStart$Node;Lcom/example/apportion/apportion/JobsByStart$Node;)Lcom/example/apportion/apportion/JobsByStart$Node;"⟩ : MethodName)) (By := Bj00) (as := [lv, rv]) (rest := []) d24_16 (w174 hw) (w175 hw) (w2 hw) (w176 hw) (by decide) (joi00 hw JS sf nf J lv rv jl jr wl wr T_l T_r hn'.2) pd_9 rfl rfl rfl (by decide) (Nat.le_of_ble_eq_true rfl) (by decide) (by decide) (pc' := 19) rfl ?_
  rintro _ h2 ⟨v3, w3, rfl, T3, P3, Kc⟩
  have hr_v3 := T3.isRef
  replace KE := KE.trans Kc (fun x hx => Or.inl (List.mem_cons_of_mem _ hx))
  show WP _ _ _ _ _ _ _ _ _ _ [v3]
  exact WP.retA d24_19 rfl rfl hr_v3 (by decide) (by decide) (have S := wouE hso ej; ⟨_, _, _, rfl, T3.le (by decide), S.1, S.2, fun y hy => List.mem_cons_of_mem _ (P3.mem_iff.mp hy), KE⟩)
theorem wou1 {l : Launch} {Z : State} {a0 : Array Value} (hw : HW Z a0) {n0 : Nat} {h : Heap} (JS : List Addr) (sf nf : Addr → Int64) (J : JOK Z h JS sf nf) (v : Value) (js ws : List Addr) (hT : TR Z n0 JS h (0 + 1) v js ws) (hnd : ws.Nodup) (hso : js.Pairwise (lt sf nf)) (x : Addr) (hx : x ∈ js) : OMet l (⟨"com/example/apportion/apportion/JobsByStart", "without", "(Lcom/example/apportion/apportion/JobsByStart$Node;Lcom/example/apportion/apportion/GridJob;)Lcom/example/apportion/apportion/JobsByStart$Node;"⟩ : MethodName) Bw1 Z n0 #[v, (.ref x)] h (fun r h' => WouP Z n0 JS sf nf h h' 0 x js ws r) := by
  have hT' := hT
  rw [TR_succ] at hT'
  rcases hT' with ⟨-, rfl, -⟩ | ⟨a, j, t, p, le, lv, rv, jl, jr, wl, wr, rfl, -⟩
  · cases hx
  · exact wou1_r hw JS sf nf J a js ws hT hnd hso x hx
def Bw2 : Bod := ("com/example/apportion/apportion/JobsByStart", "without", prog_103_method_13_code, 2, some (.object "com/example/apportion/apportion/JobsByStart$Node"), ({ frames := 3, cells := 0, slots := 0, locals := 60 } : Room))
theorem wou2_r {l : Launch} {Z : State} {a0 : Array Value} (hw : HW Z a0) {n0 : Nat} {h : Heap} (JS : List Addr) (sf nf : Addr → Int64) (J : JOK Z h JS sf nf) (a : Addr) (js ws : List Addr) (hT : TR Z n0 JS h (1 + 1) (.ref a) js ws) (hnd : ws.Nodup) (hso : js.Pairwise (lt sf nf)) (x : Addr) (hx : x ∈ js) : OMet l (⟨"com/example/apportion/apportion/JobsByStart", "without", "(Lcom/example/apportion/apportion/JobsByStart$Node;Lcom/example/apportion/apportion/GridJob;)Lcom/example/apportion/apportion/JobsByStart$Node;"⟩ : MethodName) Bw2 Z n0 #[(.ref a), (.ref x)] h (fun r h' => WouP Z n0 JS sf nf h h' 2 x js ws r) := by
  refine OMet.of_wp (ls0 := #[.val (.ref a), .val (.ref x)]) pl24 rfl rfl (fun m => own_entry 0 rfl rfl) ?_
  have hxJ := hT.jobs x hx
  rw [TR_succ] at hT
  rcases hT with ⟨h0, -⟩ | ⟨a', j, t, p, le, lv, rv, jl, jr, wl, wr, ha, O_a, hj, ht, g_a, T_l, T_r, rfl, rfl⟩
  · cases h0
  cases ha
  have hr_lv := T_l.isRef
  have hr_rv := T_r.isRef
  have hn' := List.nodup_cons.mp hnd
  have n_a_wl : a ∉ wl := fun q => hn'.1 (by simp [q])
  have n_a_wr : a ∉ wr := fun q => hn'.1 (by simp [q])
  obtain ⟨nd_l, nd_r, nd_lr⟩ := List.nodup_append.mp hn'.2
  obtain ⟨so_l, so_jr, so_x⟩ := List.pairwise_append.mp hso
  obtain ⟨so_j, so_r⟩ := List.pairwise_cons.mp so_jr
  have m_a : a ∈ a :: (wl ++ wr) := by simp
  have KE : Keep h h (a :: (wl ++ wr)) := Keep.refl _ _
  refine WP.aloadN d24_0 rfl rfl (pc' := 1) rfl ?_
  refine WP.getf (i := 0) (v := (.ref j)) d24_1 (w131 hw) O_a rfl rfl (pc' := 4) rfl ?_
  refine WP.aloadN d24_4 rfl rfl (pc' := 5) rfl ?_
  refine WP.acmpNe d24_5 (tgt := 20) (by decide) (pc' := 8) rfl rfl rfl (fun c5 => ?_) (fun c5 => ?_)
  ·
    have nj : j ≠ x := fun q => c5 (by rw [q])
    refine WP.aloadN d24_20 rfl rfl (pc' := 21) rfl ?_
    refine WP.aloadN d24_21 rfl rfl (pc' := 22) rfl ?_
    refine WP.getf (i := 0) (v := (.ref j)) d24_22 (w131 hw) O_a rfl rfl (pc' := 25) rfl ?_
    refine WP.callS (y := (⟨"com/example/apportion/apportion/JobsByStart", "precedes", "(Lcom/example/apportion/apportion/GridJob;Lcom/example/apportion/apportion/GridJob;)Z"⟩ : MethodName)) (By := B17) (as := [(.ref x), (.ref j)]) (rest := []) d24_25 (w132 hw) (w133 hw) (w2 hw) (w134 hw) (by decide) (pre_met hw x j _ _ _ _ (J x hxJ) (J j hj)) pd_8 rfl rfl rfl (by decide) (Nat.le_of_ble_eq_true rfl) (by decide) (by decide) (pc' := 28) rfl ?_
    rintro _ _ ⟨rfl, rp, rfl, hrp⟩
    show WP _ _ _ _ _ _ _ _ _ _ [(.int rp)]
    refine WP.ifEq d24_28 (tgt := 46) (by decide) (pc' := 31) rfl (fun c28 => ?_) (fun c28 => ?_)
    ·
      have hnq : ¬ lt sf nf x j := by unfold lt; omega
      have hxr : x ∈ jr := by
        rcases List.mem_append.mp hx with q | q
        · exact absurd (so_x x q j (by simp)) hnq
        · rcases List.mem_cons.mp q with q | q
          · exact absurd q.symm nj
          · exact q
      have hq : lt sf nf j x := so_j x hxr
      refine WP.aloadN d24_46 rfl rfl (pc' := 47) rfl ?_
      refine WP.aloadN d24_47 rfl rfl (pc' := 48) rfl ?_
      refine WP.getf (i := 5) (v := rv) d24_48 (w154 hw) O_a rfl rfl (pc' := 51) rfl ?_
      refine WP.aloadN d24_51 rfl rfl (pc' := 52) rfl ?_
      refine WP.callS (y := (⟨"com/example/apportion/apportion/JobsByStart", "without", "(Lcom/example/apportion/apportion/JobsByStart$Node;Lcom/example/apportion/apportion/GridJob;)Lcom/example/apportion/apportion/JobsByStart$Node;"⟩ : MethodName)) (By := Bw1) (as := [rv, (.ref x)]) (rest := [(.ref a)]) d24_52 (w171 hw) (w172 hw) (w2 hw) (w173 hw) (by decide) (wou1 hw JS sf nf J rv jr wr T_r nd_r so_r x hxr) pd_11 rfl rfl rfl (by decide) (Nat.le_of_ble_eq_true rfl) (by decide) (by decide) (pc' := 55) rfl ?_
      rintro _ h2 ⟨v3, js3, w3, rfl, T3, so3, mj3, mw3, Kc⟩
      have Eo : ∀ y ∈ wr, Exa Z h y "com/example/apportion/apportion/JobsByStart$Node" := fun y hy => (T_r.nodes y hy).1
      replace KE := KE.trans Kc (fun y hy => Or.inl (by simp [hy]))
      replace J := J.keep Kc (J.offs Eo)
      replace O_a := O_a.keep Kc n_a_wr
      replace T_l := T_l.keep Kc (fun y hy q => nd_lr y hy y q rfl)
      have n_a_w3 : a ∉ w3 := fun q => n_a_wr (mw3 a q)
      have hr_v3 := T3.isRef
      show WP _ _ _ _ _ _ _ _ _ _ [v3, (.ref a)]
      refine WP.putf (i := 5) d24_55 (w154 hw) O_a (lay_ND hw) (by decide) rfl (Or.inl (w155 hw)) (w105 hw) (t := (.object "com/example/apportion/apportion/JobsByStart$Node")) (by decide) (own_narR hr_v3) (own_fitR hr_v3) g_a (pc' := 58) rfl ?_
      intro h3 K4 O_n
      replace KE := KE.trans K4 (own_all (Or.inl m_a) own_all0)
      replace J := J.keep K4 (fun z hz => (own_cons (J.off hz O_a.1) own_nil))
      replace T3 := T3.keep K4 (fun z hz => (own_cons (fun q => n_a_w3 (q ▸ hz)) own_nil))
      replace T_l := T_l.keep K4 (fun z hz => (own_cons (fun q => n_a_wl (q ▸ hz)) own_nil))
      replace O_a : Ob Z h3 a "com/example/apportion/apportion/JobsByStart$Node" L_ND [(.ref j), (.long p), (.ref t), (.long le), lv, v3] := O_n
      clear O_n
      refine WP.aloadN d24_58 rfl rfl (pc' := 59) rfl ?_
      refine WP.callS (y := (⟨"com/example/apportion/apportion/JobsByStart", "pull", "(Lcom/example/apportion/apportion/JobsByStart$Node;)V"⟩ : MethodName)) (By := B18) (as := [(.ref a)]) (rest := []) d24_59 (w139 hw) (w140 hw) (w2 hw) (w141 hw) (by decide) (pul_met hw JS sf nf J a j t p le lv v3 g_a hj O_a T_l.ch T3.ch) pd_10 rfl rfl rfl (by decide) (Nat.le_of_ble_eq_true rfl) (by decide) (by decide) (pc' := 62) rfl ?_
      rintro _ h6 ⟨rfl, Kp, le_5, O_n⟩
      replace KE := KE.trans Kp (own_all (Or.inl m_a) own_all0)
      replace J := J.keep Kp (fun z hz => (own_cons (J.off hz O_a.1) own_nil))
      replace T3 := T3.keep Kp (fun z hz => (own_cons (fun q => n_a_w3 (q ▸ hz)) own_nil))
      replace T_l := T_l.keep Kp (fun z hz => (own_cons (fun q => n_a_wl (q ▸ hz)) own_nil))
      replace O_a := O_n
      show WP _ _ _ _ _ _ _ _ _ _ []
      refine WP.aloadN d24_62 rfl rfl (pc' := 63) rfl ?_
      exact WP.retA d24_63 rfl rfl rfl (by decide) (by decide) (have S := wouR mj3 so3 hso hq; ⟨_, _, _, rfl, Or.inr ⟨a, j, j, p, le_5, lv, v3, _, _, _, _, rfl, O_a, hj, hj, g_a, (T_l.le (by decide)), (T3.le (by decide)), rfl, rfl⟩, S.1, S.2, fun y hy => by simp only [List.mem_cons, List.mem_append] at hy ⊢; rcases hy with q | q | q; exact Or.inl q; exact Or.inr (Or.inl q); exact Or.inr (Or.inr (mw3 y q)), KE⟩)
    have hq : lt sf nf x j := by unfold lt; omega
    have hxl : x ∈ jl := by
      rcases List.mem_append.mp hx with q | q
      · exact q
      · rcases List.mem_cons.mp q with q | q
        · exact absurd q.symm nj
        · exact absurd (lt_tr hq (so_j x q)) lt_irr
    refine WP.aloadN d24_31 rfl rfl (pc' := 32) rfl ?_
    refine WP.aloadN d24_32 rfl rfl (pc' := 33) rfl ?_
    refine WP.getf (i := 4) (v := lv) d24_33 (w136 hw) O_a rfl rfl (pc' := 36) rfl ?_
    refine WP.aloadN d24_36 rfl rfl (pc' := 37) rfl ?_
    refine WP.callS (y := (⟨"com/example/apportion/apportion/JobsByStart", "without", "(Lcom/example/apportion/apportion/JobsByStart$Node;Lcom/example/apportion/apportion/GridJob;)Lcom/example/apportion/apportion/JobsByStart$Node;"⟩ : MethodName)) (By := Bw1) (as := [lv, (.ref x)]) (rest := [(.ref a)]) d24_37 (w171 hw) (w172 hw) (w2 hw) (w173 hw) (by decide) (wou1 hw JS sf nf J lv jl wl T_l nd_l so_l x hxl) pd_11 rfl rfl rfl (by decide) (Nat.le_of_ble_eq_true rfl) (by decide) (by decide) (pc' := 40) rfl ?_
    rintro _ h7 ⟨v3, js3, w3, rfl, T3, so3, mj3, mw3, Kc⟩
    have Eo : ∀ y ∈ wl, Exa Z h y "com/example/apportion/apportion/JobsByStart$Node" := fun y hy => (T_l.nodes y hy).1
    replace KE := KE.trans Kc (fun y hy => Or.inl (by simp [hy]))
    replace J := J.keep Kc (J.offs Eo)
    replace O_a := O_a.keep Kc n_a_wl
    replace T_r := T_r.keep Kc (fun y hy q => nd_lr y q y hy rfl)
    have n_a_w3 : a ∉ w3 := fun q => n_a_wl (mw3 a q)
    have hr_v3 := T3.isRef
    show WP _ _ _ _ _ _ _ _ _ _ [v3, (.ref a)]
    refine WP.putf (i := 4) d24_40 (w136 hw) O_a (lay_ND hw) (by decide) rfl (Or.inl (w137 hw)) (w105 hw) (t := (.object "com/example/apportion/apportion/JobsByStart$Node")) (by decide) (own_narR hr_v3) (own_fitR hr_v3) g_a (pc' := 43) rfl ?_
    intro h8 K9 O_n
    replace KE := KE.trans K9 (own_all (Or.inl m_a) own_all0)
    replace J := J.keep K9 (fun z hz => (own_cons (J.off hz O_a.1) own_nil))
    replace T3 := T3.keep K9 (fun z hz => (own_cons (fun q => n_a_w3 (q ▸ hz)) own_nil))
    replace T_r := T_r.keep K9 (fun z hz => (own_cons (fun q => n_a_wr (q ▸ hz)) own_nil))
    replace O_a : Ob Z h8 a "com/example/apportion/apportion/JobsByStart$Node" L_ND [(.ref j), (.long p), (.ref t), (.long le), v3, rv] := O_n
    clear O_n
    refine WP.goto d24_43 (pc' := 58) (by decide) ?_
    refine WP.aloadN d24_58 rfl rfl (pc' := 59) rfl ?_
    refine WP.callS (y := (⟨"com/example/apportion/apportion/JobsByStart", "pull", "(Lcom/example/apportion/apportion/JobsByStart$Node;)V"⟩ : MethodName)) (By := B18) (as := [(.ref a)]) (rest := []) d24_59 (w139 hw) (w140 hw) (w2 hw) (w141 hw) (by decide) (pul_met hw JS sf nf J a j t p le v3 rv g_a hj O_a T3.ch T_r.ch) pd_10 rfl rfl rfl (by decide) (Nat.le_of_ble_eq_true rfl) (by decide) (by decide) (pc' := 62) rfl ?_
    rintro _ h11 ⟨rfl, Kp, le_10, O_n⟩
    replace KE := KE.trans Kp (own_all (Or.inl m_a) own_all0)
    replace J := J.keep Kp (fun z hz => (own_cons (J.off hz O_a.1) own_nil))
    replace T3 := T3.keep Kp (fun z hz => (own_cons (fun q => n_a_w3 (q ▸ hz)) own_nil))
    replace T_r := T_r.keep Kp (fun z hz => (own_cons (fun q => n_a_wr (q ▸ hz)) own_nil))
    replace O_a := O_n
    show WP _ _ _ _ _ _ _ _ _ _ []
    refine WP.aloadN d24_62 rfl rfl (pc' := 63) rfl ?_
    exact WP.retA d24_63 rfl rfl rfl (by decide) (by decide) (have S := wouL mj3 so3 hso hq; ⟨_, _, _, rfl, Or.inr ⟨a, j, j, p, le_10, v3, rv, _, _, _, _, rfl, O_a, hj, hj, g_a, (T3.le (by decide)), (T_r.le (by decide)), rfl, rfl⟩, S.1, S.2, fun y hy => by simp only [List.mem_cons, List.mem_append] at hy ⊢; rcases hy with q | q | q; exact Or.inl q; exact Or.inr (Or.inl (mw3 y q)); exact Or.inr (Or.inr q), KE⟩)
  have ej : j = x := by injection c5
  refine WP.aloadN d24_8 rfl rfl (pc' := 9) rfl ?_
  refine WP.getf (i := 4) (v := lv) d24_9 (w136 hw) O_a rfl rfl (pc' := 12) rfl ?_
  refine WP.aloadN d24_12 rfl rfl (pc' := 13) rfl ?_
  refine WP.getf (i := 5) (v := rv) d24_13 (w154 hw) O_a rfl rfl (pc' := 16) rfl ?_
  refine WP.callS (y := (⟨"com/example/apportion/apportion/JobsByStart", "join", "(Lcom/example/apportion/apportion/JobsByStart$Node;Lcom/example/apportion/apportion/JobsByStart$Node;)Lcom/example/apportion/apportion/JobsByStart$Node;"⟩ : MethodName)) (By := Bj11) (as := [lv, rv]) (rest := []) d24_16 (w174 hw) (w175 hw) (w2 hw) (w176 hw) (by decide) (joi11 hw JS sf nf J lv rv jl jr wl wr T_l T_r hn'.2) pd_9 rfl rfl rfl (by decide) (Nat.le_of_ble_eq_true rfl) (by decide) (by decide) (pc' := 19) rfl ?_
  rintro _ h12 ⟨v3, w3, rfl, T3, P3, Kc⟩
  have hr_v3 := T3.isRef
  replace KE := KE.trans Kc (fun x hx => Or.inl (List.mem_cons_of_mem _ hx))
  show WP _ _ _ _ _ _ _ _ _ _ [v3]
  exact WP.retA d24_19 rfl rfl hr_v3 (by decide) (by decide) (have S := wouE hso ej; ⟨_, _, _, rfl, T3.le (by decide), S.1, S.2, fun y hy => List.mem_cons_of_mem _ (P3.mem_iff.mp hy), KE⟩)
theorem wou2 {l : Launch} {Z : State} {a0 : Array Value} (hw : HW Z a0) {n0 : Nat} {h : Heap} (JS : List Addr) (sf nf : Addr → Int64) (J : JOK Z h JS sf nf) (v : Value) (js ws : List Addr) (hT : TR Z n0 JS h (1 + 1) v js ws) (hnd : ws.Nodup) (hso : js.Pairwise (lt sf nf)) (x : Addr) (hx : x ∈ js) : OMet l (⟨"com/example/apportion/apportion/JobsByStart", "without", "(Lcom/example/apportion/apportion/JobsByStart$Node;Lcom/example/apportion/apportion/GridJob;)Lcom/example/apportion/apportion/JobsByStart$Node;"⟩ : MethodName) Bw2 Z n0 #[v, (.ref x)] h (fun r h' => WouP Z n0 JS sf nf h h' 2 x js ws r) := by
  have hT' := hT
  rw [TR_succ] at hT'
  rcases hT' with ⟨-, rfl, -⟩ | ⟨a, j, t, p, le, lv, rv, jl, jr, wl, wr, rfl, -⟩
  · cases hx
  · exact wou2_r hw JS sf nf J a js ws hT hnd hso x hx
def Bw3 : Bod := ("com/example/apportion/apportion/JobsByStart", "without", prog_103_method_13_code, 2, some (.object "com/example/apportion/apportion/JobsByStart$Node"), ({ frames := 5, cells := 0, slots := 0, locals := 100 } : Room))
theorem wou3_r {l : Launch} {Z : State} {a0 : Array Value} (hw : HW Z a0) {n0 : Nat} {h : Heap} (JS : List Addr) (sf nf : Addr → Int64) (J : JOK Z h JS sf nf) (a : Addr) (js ws : List Addr) (hT : TR Z n0 JS h (2 + 1) (.ref a) js ws) (hnd : ws.Nodup) (hso : js.Pairwise (lt sf nf)) (x : Addr) (hx : x ∈ js) : OMet l (⟨"com/example/apportion/apportion/JobsByStart", "without", "(Lcom/example/apportion/apportion/JobsByStart$Node;Lcom/example/apportion/apportion/GridJob;)Lcom/example/apportion/apportion/JobsByStart$Node;"⟩ : MethodName) Bw3 Z n0 #[(.ref a), (.ref x)] h (fun r h' => WouP Z n0 JS sf nf h h' 4 x js ws r) := by
  refine OMet.of_wp (ls0 := #[.val (.ref a), .val (.ref x)]) pl24 rfl rfl (fun m => own_entry 0 rfl rfl) ?_
  have hxJ := hT.jobs x hx
  rw [TR_succ] at hT
  rcases hT with ⟨h0, -⟩ | ⟨a', j, t, p, le, lv, rv, jl, jr, wl, wr, ha, O_a, hj, ht, g_a, T_l, T_r, rfl, rfl⟩
  · cases h0
  cases ha
  have hr_lv := T_l.isRef
  have hr_rv := T_r.isRef
  have hn' := List.nodup_cons.mp hnd
  have n_a_wl : a ∉ wl := fun q => hn'.1 (by simp [q])
  have n_a_wr : a ∉ wr := fun q => hn'.1 (by simp [q])
  obtain ⟨nd_l, nd_r, nd_lr⟩ := List.nodup_append.mp hn'.2
  obtain ⟨so_l, so_jr, so_x⟩ := List.pairwise_append.mp hso
  obtain ⟨so_j, so_r⟩ := List.pairwise_cons.mp so_jr
  have m_a : a ∈ a :: (wl ++ wr) := by simp
  have KE : Keep h h (a :: (wl ++ wr)) := Keep.refl _ _
  refine WP.aloadN d24_0 rfl rfl (pc' := 1) rfl ?_
  refine WP.getf (i := 0) (v := (.ref j)) d24_1 (w131 hw) O_a rfl rfl (pc' := 4) rfl ?_
  refine WP.aloadN d24_4 rfl rfl (pc' := 5) rfl ?_
  refine WP.acmpNe d24_5 (tgt := 20) (by decide) (pc' := 8) rfl rfl rfl (fun c5 => ?_) (fun c5 => ?_)
  ·
    have nj : j ≠ x := fun q => c5 (by rw [q])
    refine WP.aloadN d24_20 rfl rfl (pc' := 21) rfl ?_
    refine WP.aloadN d24_21 rfl rfl (pc' := 22) rfl ?_
    refine WP.getf (i := 0) (v := (.ref j)) d24_22 (w131 hw) O_a rfl rfl (pc' := 25) rfl ?_
    refine WP.callS (y := (⟨"com/example/apportion/apportion/JobsByStart", "precedes", "(Lcom/example/apportion/apportion/GridJob;Lcom/example/apportion/apportion/GridJob;)Z"⟩ : MethodName)) (By := B17) (as := [(.ref x), (.ref j)]) (rest := []) d24_25 (w132 hw) (w133 hw) (w2 hw) (w134 hw) (by decide) (pre_met hw x j _ _ _ _ (J x hxJ) (J j hj)) pd_8 rfl rfl rfl (by decide) (Nat.le_of_ble_eq_true rfl) (by decide) (by decide) (pc' := 28) rfl ?_
    rintro _ _ ⟨rfl, rp, rfl, hrp⟩
    show WP _ _ _ _ _ _ _ _ _ _ [(.int rp)]
    refine WP.ifEq d24_28 (tgt := 46) (by decide) (pc' := 31) rfl (fun c28 => ?_) (fun c28 => ?_)
    ·
      have hnq : ¬ lt sf nf x j := by unfold lt; omega
      have hxr : x ∈ jr := by
        rcases List.mem_append.mp hx with q | q
        · exact absurd (so_x x q j (by simp)) hnq
        · rcases List.mem_cons.mp q with q | q
          · exact absurd q.symm nj
          · exact q
      have hq : lt sf nf j x := so_j x hxr
      refine WP.aloadN d24_46 rfl rfl (pc' := 47) rfl ?_
      refine WP.aloadN d24_47 rfl rfl (pc' := 48) rfl ?_
      refine WP.getf (i := 5) (v := rv) d24_48 (w154 hw) O_a rfl rfl (pc' := 51) rfl ?_
      refine WP.aloadN d24_51 rfl rfl (pc' := 52) rfl ?_
      refine WP.callS (y := (⟨"com/example/apportion/apportion/JobsByStart", "without", "(Lcom/example/apportion/apportion/JobsByStart$Node;Lcom/example/apportion/apportion/GridJob;)Lcom/example/apportion/apportion/JobsByStart$Node;"⟩ : MethodName)) (By := Bw2) (as := [rv, (.ref x)]) (rest := [(.ref a)]) d24_52 (w171 hw) (w172 hw) (w2 hw) (w173 hw) (by decide) (wou2 hw JS sf nf J rv jr wr T_r nd_r so_r x hxr) pd_11 rfl rfl rfl (by decide) (Nat.le_of_ble_eq_true rfl) (by decide) (by decide) (pc' := 55) rfl ?_
      rintro _ h2 ⟨v3, js3, w3, rfl, T3, so3, mj3, mw3, Kc⟩
      have Eo : ∀ y ∈ wr, Exa Z h y "com/example/apportion/apportion/JobsByStart$Node" := fun y hy => (T_r.nodes y hy).1
      replace KE := KE.trans Kc (fun y hy => Or.inl (by simp [hy]))
      replace J := J.keep Kc (J.offs Eo)
      replace O_a := O_a.keep Kc n_a_wr
      replace T_l := T_l.keep Kc (fun y hy q => nd_lr y hy y q rfl)
      have n_a_w3 : a ∉ w3 := fun q => n_a_wr (mw3 a q)
      have hr_v3 := T3.isRef
      show WP _ _ _ _ _ _ _ _ _ _ [v3, (.ref a)]
      refine WP.putf (i := 5) d24_55 (w154 hw) O_a (lay_ND hw) (by decide) rfl (Or.inl (w155 hw)) (w105 hw) (t := (.object "com/example/apportion/apportion/JobsByStart$Node")) (by decide) (own_narR hr_v3) (own_fitR hr_v3) g_a (pc' := 58) rfl ?_
      intro h3 K4 O_n
      replace KE := KE.trans K4 (own_all (Or.inl m_a) own_all0)
      replace J := J.keep K4 (fun z hz => (own_cons (J.off hz O_a.1) own_nil))
      replace T3 := T3.keep K4 (fun z hz => (own_cons (fun q => n_a_w3 (q ▸ hz)) own_nil))
      replace T_l := T_l.keep K4 (fun z hz => (own_cons (fun q => n_a_wl (q ▸ hz)) own_nil))
      replace O_a : Ob Z h3 a "com/example/apportion/apportion/JobsByStart$Node" L_ND [(.ref j), (.long p), (.ref t), (.long le), lv, v3] := O_n
      clear O_n
      refine WP.aloadN d24_58 rfl rfl (pc' := 59) rfl ?_
      refine WP.callS (y := (⟨"com/example/apportion/apportion/JobsByStart", "pull", "(Lcom/example/apportion/apportion/JobsByStart$Node;)V"⟩ : MethodName)) (By := B18) (as := [(.ref a)]) (rest := []) d24_59 (w139 hw) (w140 hw) (w2 hw) (w141 hw) (by decide) (pul_met hw JS sf nf J a j t p le lv v3 g_a hj O_a T_l.ch T3.ch) pd_10 rfl rfl rfl (by decide) (Nat.le_of_ble_eq_true rfl) (by decide) (by decide) (pc' := 62) rfl ?_
      rintro _ h6 ⟨rfl, Kp, le_5, O_n⟩
      replace KE := KE.trans Kp (own_all (Or.inl m_a) own_all0)
      replace J := J.keep Kp (fun z hz => (own_cons (J.off hz O_a.1) own_nil))
      replace T3 := T3.keep Kp (fun z hz => (own_cons (fun q => n_a_w3 (q ▸ hz)) own_nil))
      replace T_l := T_l.keep Kp (fun z hz => (own_cons (fun q => n_a_wl (q ▸ hz)) own_nil))
      replace O_a := O_n
      show WP _ _ _ _ _ _ _ _ _ _ []
      refine WP.aloadN d24_62 rfl rfl (pc' := 63) rfl ?_
      exact WP.retA d24_63 rfl rfl rfl (by decide) (by decide) (have S := wouR mj3 so3 hso hq; ⟨_, _, _, rfl, Or.inr ⟨a, j, j, p, le_5, lv, v3, _, _, _, _, rfl, O_a, hj, hj, g_a, (T_l.le (by decide)), (T3.le (by decide)), rfl, rfl⟩, S.1, S.2, fun y hy => by simp only [List.mem_cons, List.mem_append] at hy ⊢; rcases hy with q | q | q; exact Or.inl q; exact Or.inr (Or.inl q); exact Or.inr (Or.inr (mw3 y q)), KE⟩)
    have hq : lt sf nf x j := by unfold lt; omega
    have hxl : x ∈ jl := by
      rcases List.mem_append.mp hx with q | q
      · exact q
      · rcases List.mem_cons.mp q with q | q
        · exact absurd q.symm nj
        · exact absurd (lt_tr hq (so_j x q)) lt_irr
    refine WP.aloadN d24_31 rfl rfl (pc' := 32) rfl ?_
    refine WP.aloadN d24_32 rfl rfl (pc' := 33) rfl ?_
    refine WP.getf (i := 4) (v := lv) d24_33 (w136 hw) O_a rfl rfl (pc' := 36) rfl ?_
    refine WP.aloadN d24_36 rfl rfl (pc' := 37) rfl ?_
    refine WP.callS (y := (⟨"com/example/apportion/apportion/JobsByStart", "without", "(Lcom/example/apportion/apportion/JobsByStart$Node;Lcom/example/apportion/apportion/GridJob;)Lcom/example/apportion/apportion/JobsByStart$Node;"⟩ : MethodName)) (By := Bw2) (as := [lv, (.ref x)]) (rest := [(.ref a)]) d24_37 (w171 hw) (w172 hw) (w2 hw) (w173 hw) (by decide) (wou2 hw JS sf nf J lv jl wl T_l nd_l so_l x hxl) pd_11 rfl rfl rfl (by decide) (Nat.le_of_ble_eq_true rfl) (by decide) (by decide) (pc' := 40) rfl ?_
    rintro _ h7 ⟨v3, js3, w3, rfl, T3, so3, mj3, mw3, Kc⟩
    have Eo : ∀ y ∈ wl, Exa Z h y "com/example/apportion/apportion/JobsByStart$Node" := fun y hy => (T_l.nodes y hy).1
    replace KE := KE.trans Kc (fun y hy => Or.inl (by simp [hy]))
    replace J := J.keep Kc (J.offs Eo)
    replace O_a := O_a.keep Kc n_a_wl
    replace T_r := T_r.keep Kc (fun y hy q => nd_lr y q y hy rfl)
    have n_a_w3 : a ∉ w3 := fun q => n_a_wl (mw3 a q)
    have hr_v3 := T3.isRef
    show WP _ _ _ _ _ _ _ _ _ _ [v3, (.ref a)]
    refine WP.putf (i := 4) d24_40 (w136 hw) O_a (lay_ND hw) (by decide) rfl (Or.inl (w137 hw)) (w105 hw) (t := (.object "com/example/apportion/apportion/JobsByStart$Node")) (by decide) (own_narR hr_v3) (own_fitR hr_v3) g_a (pc' := 43) rfl ?_
    intro h8 K9 O_n
    replace KE := KE.trans K9 (own_all (Or.inl m_a) own_all0)
    replace J := J.keep K9 (fun z hz => (own_cons (J.off hz O_a.1) own_nil))
    replace T3 := T3.keep K9 (fun z hz => (own_cons (fun q => n_a_w3 (q ▸ hz)) own_nil))
    replace T_r := T_r.keep K9 (fun z hz => (own_cons (fun q => n_a_wr (q ▸ hz)) own_nil))
    replace O_a : Ob Z h8 a "com/example/apportion/apportion/JobsByStart$Node" L_ND [(.ref j), (.long p), (.ref t), (.long le), v3, rv] := O_n
    clear O_n
    refine WP.goto d24_43 (pc' := 58) (by decide) ?_
    refine WP.aloadN d24_58 rfl rfl (pc' := 59) rfl ?_
    refine WP.callS (y := (⟨"com/example/apportion/apportion/JobsByStart", "pull", "(Lcom/example/apportion/apportion/JobsByStart$Node;)V"⟩ : MethodName)) (By := B18) (as := [(.ref a)]) (rest := []) d24_59 (w139 hw) (w140 hw) (w2 hw) (w141 hw) (by decide) (pul_met hw JS sf nf J a j t p le v3 rv g_a hj O_a T3.ch T_r.ch) pd_10 rfl rfl rfl (by decide) (Nat.le_of_ble_eq_true rfl) (by decide) (by decide) (pc' := 62) rfl ?_
    rintro _ h11 ⟨rfl, Kp, le_10, O_n⟩
    replace KE := KE.trans Kp (own_all (Or.inl m_a) own_all0)
    replace J := J.keep Kp (fun z hz => (own_cons (J.off hz O_a.1) own_nil))
    replace T3 := T3.keep Kp (fun z hz => (own_cons (fun q => n_a_w3 (q ▸ hz)) own_nil))
    replace T_r := T_r.keep Kp (fun z hz => (own_cons (fun q => n_a_wr (q ▸ hz)) own_nil))
    replace O_a := O_n
    show WP _ _ _ _ _ _ _ _ _ _ []
    refine WP.aloadN d24_62 rfl rfl (pc' := 63) rfl ?_
    exact WP.retA d24_63 rfl rfl rfl (by decide) (by decide) (have S := wouL mj3 so3 hso hq; ⟨_, _, _, rfl, Or.inr ⟨a, j, j, p, le_10, v3, rv, _, _, _, _, rfl, O_a, hj, hj, g_a, (T3.le (by decide)), (T_r.le (by decide)), rfl, rfl⟩, S.1, S.2, fun y hy => by simp only [List.mem_cons, List.mem_append] at hy ⊢; rcases hy with q | q | q; exact Or.inl q; exact Or.inr (Or.inl (mw3 y q)); exact Or.inr (Or.inr q), KE⟩)
  have ej : j = x := by injection c5
  refine WP.aloadN d24_8 rfl rfl (pc' := 9) rfl ?_
  refine WP.getf (i := 4) (v := lv) d24_9 (w136 hw) O_a rfl rfl (pc' := 12) rfl ?_
  refine WP.aloadN d24_12 rfl rfl (pc' := 13) rfl ?_
  refine WP.getf (i := 5) (v := rv) d24_13 (w154 hw) O_a rfl rfl (pc' := 16) rfl ?_
  refine WP.callS (y := (⟨"com/example/apportion/apportion/JobsByStart", "join", "(Lcom/example/apportion/apportion/JobsByStart$Node;Lcom/example/apportion/apportion/JobsByStart$Node;)Lcom/example/apportion/apportion/JobsByStart$Node;"⟩ : MethodName)) (By := Bj22) (as := [lv, rv]) (rest := []) d24_16 (w174 hw) (w175 hw) (w2 hw) (w176 hw) (by decide) (joi22 hw JS sf nf J lv rv jl jr wl wr T_l T_r hn'.2) pd_9 rfl rfl rfl (by decide) (Nat.le_of_ble_eq_true rfl) (by decide) (by decide) (pc' := 19) rfl ?_
  rintro _ h12 ⟨v3, w3, rfl, T3, P3, Kc⟩
  have hr_v3 := T3.isRef
  replace KE := KE.trans Kc (fun x hx => Or.inl (List.mem_cons_of_mem _ hx))
  show WP _ _ _ _ _ _ _ _ _ _ [v3]
  exact WP.retA d24_19 rfl rfl hr_v3 (by decide) (by decide) (have S := wouE hso ej; ⟨_, _, _, rfl, T3.le (by decide), S.1, S.2, fun y hy => List.mem_cons_of_mem _ (P3.mem_iff.mp hy), KE⟩)
theorem wou3 {l : Launch} {Z : State} {a0 : Array Value} (hw : HW Z a0) {n0 : Nat} {h : Heap} (JS : List Addr) (sf nf : Addr → Int64) (J : JOK Z h JS sf nf) (v : Value) (js ws : List Addr) (hT : TR Z n0 JS h (2 + 1) v js ws) (hnd : ws.Nodup) (hso : js.Pairwise (lt sf nf)) (x : Addr) (hx : x ∈ js) : OMet l (⟨"com/example/apportion/apportion/JobsByStart", "without", "(Lcom/example/apportion/apportion/JobsByStart$Node;Lcom/example/apportion/apportion/GridJob;)Lcom/example/apportion/apportion/JobsByStart$Node;"⟩ : MethodName) Bw3 Z n0 #[v, (.ref x)] h (fun r h' => WouP Z n0 JS sf nf h h' 4 x js ws r) := by
  have hT' := hT
  rw [TR_succ] at hT'
  rcases hT' with ⟨-, rfl, -⟩ | ⟨a, j, t, p, le, lv, rv, jl, jr, wl, wr, rfl, -⟩
  · cases hx
  · exact wou3_r hw JS sf nf J a js ws hT hnd hso x hx
def hd : List Addr → Value
  | [] => .null
  | j :: _ => .ref j
theorem hd_ref (js : List Addr) : (hd js).isRef = true := by cases js <;> rfl
theorem hd_app {jl jr : List Addr} (q : jl ≠ []) : hd (jl ++ jr) = hd jl := by cases jl with
  | nil => exact absurd rfl q
  | cons a r => rfl
theorem hd_min {sf nf : Addr → Int64} {js : List Addr} {e : Addr} (so : js.Pairwise (lt sf nf)) (he : e ∈ js) (hm : ∀ y ∈ js, y ≠ e → lt sf nf e y) : hd js = .ref e := by
  cases js with
  | nil => cases he
  | cons j r =>
    by_cases q : j = e
    · rw [q]; rfl
    · have h1 := hm j (by simp) q
      rcases List.mem_cons.mp he with rfl | he
      · exact absurd rfl q
      · exact absurd (lt_tr h1 ((List.pairwise_cons.mp so).1 e he)) lt_irr
theorem JOK.offT {Z : State} {h : Heap} {JS : List Addr} {sf nf : Addr → Int64} (J : JOK Z h JS sf nf) {j x : Addr} (hj : j ∈ JS) (E : Exa Z h x "com/example/apportion/apportion/JobsByStart") : j ≠ x := ne_exa (J j hj).1 E (by decide)
theorem TR.ne {Z : State} {n0 : Nat} {JS : List Addr} {h : Heap} {f : Nat} {a : Addr} {js ws : List Addr} (T : TR Z n0 JS h f (.ref a) js ws) : js ≠ [] := by
  cases f with
  | zero => obtain ⟨q, -⟩ := T; cases q
  | succ f => rw [TR_succ] at T; rcases T with ⟨q, -⟩ | ⟨a, j, t, p, le, lv, rv, jl, jr, wl, wr, -, h2, h3, h4, h5, h6, h7, rfl, h9⟩; cases q; simp
theorem TR.off {Z : State} {n0 : Nat} {JS : List Addr} {h : Heap} {f : Nat} {v : Value} {js ws : List Addr} (T : TR Z n0 JS h f v js ws) {s : Addr} (E : Exa Z h s "com/example/apportion/apportion/JobsByStart") : s ∉ ws := fun q => ne_exa E (T.nodes s q).1 (by decide) rfl
theorem fst_n {l : Launch} {Z : State} {a0 : Array Value} (hw : HW Z a0) {n0 : Nat} {h : Heap} (s : Addr) : WP l B22 Z n0 (fun r h' => h = h' ∧ ∃ v : Value, r = some v ∧ v = hd []) h 0 0 5 #[.val (.ref s), .val .null] [] := by
  refine WP.aloadN d22_5 rfl rfl (pc' := 6) rfl ?_
  refine WP.ifnullY d22_6 (pc' := 24) (by decide) ?_
  refine WP.aloadN d22_24 rfl rfl (pc' := 25) rfl ?_
  refine WP.ifnonnullN d22_25 (pc' := 28) rfl ?_
  refine WP.aconstNull d22_28 (pc' := 29) rfl ?_
  refine WP.goto d22_29 (pc' := 36) (by decide) ?_
  exact WP.retA d22_36 rfl rfl rfl (by decide) (by decide) ⟨rfl, _, rfl, rfl⟩
theorem fst_j {l : Launch} {Z : State} {a0 : Array Value} (hw : HW Z a0) {n0 : Nat} {h : Heap} (s a j t : Addr) (p le : Int64) (rv : Value) (O_a : Ob Z h a "com/example/apportion/apportion/JobsByStart$Node" L_ND [.ref j, .long p, .ref t, .long le, .null, rv]) (jr : List Addr) : WP l B22 Z n0 (fun r h' => h = h' ∧ ∃ v : Value, r = some v ∧ v = hd (j :: jr)) h 0 0 5 #[.val (.ref s), .val (.ref a)] [] := by
  refine WP.aloadN d22_5 rfl rfl (pc' := 6) rfl ?_
  refine WP.ifnullN d22_6 (pc' := 9) rfl ?_
  refine WP.aloadN d22_9 rfl rfl (pc' := 10) rfl ?_
  refine WP.getf (i := 4) (v := .null) d22_10 (w136 hw) O_a rfl rfl (pc' := 13) rfl ?_
  refine WP.ifnullY d22_13 (pc' := 24) (by decide) ?_
  refine WP.aloadN d22_24 rfl rfl (pc' := 25) rfl ?_
  refine WP.ifnonnullY d22_25 (pc' := 32) (by decide) ?_
  refine WP.aloadN d22_32 rfl rfl (pc' := 33) rfl ?_
  refine WP.getf (i := 0) (v := (.ref j)) d22_33 (w131 hw) O_a rfl rfl (pc' := 36) rfl ?_
  exact WP.retA d22_36 rfl rfl rfl (by decide) (by decide) ⟨rfl, _, rfl, rfl⟩
theorem fst_l {l : Launch} {Z : State} {a0 : Array Value} (hw : HW Z a0) {n0 : Nat} {h : Heap} {Q : Option Value → Heap → Prop} (b : Addr) (s a j t : Addr) (p le : Int64) (rv : Value) (O_a : Ob Z h a "com/example/apportion/apportion/JobsByStart$Node" L_ND [.ref j, .long p, .ref t, .long le, .ref b, rv]) (H : WP l B22 Z n0 Q h 0 0 5 #[.val (.ref s), .val (.ref b)] []) : WP l B22 Z n0 (Q) h 0 0 5 #[.val (.ref s), .val (.ref a)] [] := by
  refine WP.aloadN d22_5 rfl rfl (pc' := 6) rfl ?_
  refine WP.ifnullN d22_6 (pc' := 9) rfl ?_
  refine WP.aloadN d22_9 rfl rfl (pc' := 10) rfl ?_
  refine WP.getf (i := 4) (v := (.ref b)) d22_10 (w136 hw) O_a rfl rfl (pc' := 13) rfl ?_
  refine WP.ifnullN d22_13 (pc' := 16) rfl ?_
  refine WP.aloadN d22_16 rfl rfl (pc' := 17) rfl ?_
  refine WP.getf (i := 4) (v := (.ref b)) d22_17 (w136 hw) O_a rfl rfl (pc' := 20) rfl ?_
  refine WP.astoreN d22_20 (pc' := 21) rfl rfl (ls' := #[.val (.ref s), .val (.ref b)]) rfl ?_
  refine WP.goto d22_21 (pc' := 5) (by decide) ?_
  exact H
theorem fst_seg {l : Launch} {Z : State} {a0 : Array Value} (hw : HW Z a0) {n0 : Nat} {h : Heap} {JS : List Addr} (s : Addr) (f : Nat) : ∀ (v : Value) (js ws : List Addr), TR Z n0 JS h f v js ws → WP l B22 Z n0 (fun r h' => h = h' ∧ ∃ v : Value, r = some v ∧ v = hd js) h 0 0 5 #[.val (.ref s), .val v] [] := by
  induction f with
  | zero => rintro v js ws ⟨rfl, rfl, rfl⟩; exact fst_n hw s
  | succ f ih =>
    intro v js ws T
    rw [TR_succ] at T
    rcases T with ⟨rfl, rfl, rfl⟩ | ⟨a, j, t, p, le, lv, rv, jl, jr, wl, wr, rfl, O_a, hj, ht, g_a, T_l, T_r, rfl, rfl⟩
    · exact fst_n hw s
    · have C := T_l.ch
      rcases C with rfl | ⟨b, j', t', p', le', l', r', rfl, -⟩
      · have e : jl = [] := by
          cases f with
          | zero => obtain ⟨-, q, -⟩ := T_l; exact q
          | succ f => rw [TR_succ] at T_l; rcases T_l with ⟨-, q, -⟩ | ⟨a, j, t, p, le, lv, rv, jl, jr, wl, wr, q, -⟩; exact q; cases q
        subst e
        exact fst_j hw s a j t p le rv O_a jr
      · have I := ih _ _ _ T_l
        rw [hd_app T_l.ne]
        exact fst_l hw b s a j t p le rv O_a I
theorem fst_met {l : Launch} {Z : State} {a0 : Array Value} (hw : HW Z a0) {n0 : Nat} {h : Heap} {JS : List Addr} (s : Addr) (v : Value) (f : Nat) (js ws : List Addr) (O_s : Ob Z h s "com/example/apportion/apportion/JobsByStart" L_TS [v]) (T : TR Z n0 JS h f v js ws) : OMet l (⟨"com/example/apportion/apportion/JobsByStart", "first", "()Lcom/example/apportion/apportion/GridJob;"⟩ : MethodName) B22 Z n0 #[(.ref s)] h (fun r h' => h = h' ∧ ∃ v : Value, r = some v ∧ v = hd js) := by
  refine OMet.of_wp (ls0 := #[.val (.ref s), .unset]) pl22 rfl rfl (fun m => own_entry 1 rfl rfl) ?_
  have hr_v := T.isRef
  refine WP.aloadN d22_0 rfl rfl (pc' := 1) rfl ?_
  refine WP.getf (i := 0) (v := v) d22_1 (w102 hw) O_s rfl rfl (pc' := 4) rfl ?_
  refine WP.astoreN d22_4 (pc' := 5) rfl hr_v (ls' := #[.val (.ref s), .val v]) (by rcases ref_cases hr_v with rfl | ⟨_, rfl⟩ <;> rfl) ?_
  exact fst_seg hw s f v js ws T
theorem add0 {l : Launch} {Z : State} {a0 : Array Value} (hw : HW Z a0) {n0 : Nat} {h : Heap} (JS : List Addr) (sf nf : Addr → Int64) (J : JOK Z h JS sf nf) (s : Addr) (v : Value) (js ws : List Addr) (O_s : Ob Z h s "com/example/apportion/apportion/JobsByStart" L_TS [v]) (g_s : n0 ≤ s) (T : TR Z n0 JS h 0 v js ws) (jn : Addr) (hjn : jn ∈ JS) (hnd : ws.Nodup) (hso : js.Pairwise (lt sf nf)) (hcmp : ∀ x ∈ js, lt sf nf jn x ∨ lt sf nf x jn) : OMet l (⟨"com/example/apportion/apportion/JobsByStart", "add", "(Lcom/example/apportion/apportion/GridJob;)V"⟩ : MethodName) B13 Z n0 #[(.ref s), (.ref jn)] h (fun r h' => r = none ∧ ∃ (v' : Value) (js' ws' : List Addr), Ob Z h' s "com/example/apportion/apportion/JobsByStart" L_TS [v'] ∧ TR Z n0 JS h' 1 v' js' ws' ∧ js'.Pairwise (lt sf nf) ∧ (∀ x, x ∈ js' ↔ x = jn ∨ x ∈ js) ∧ ws'.Nodup ∧ JOK Z h' JS sf nf) := by
  refine OMet.of_wp (ls0 := #[.val (.ref s), .val (.ref jn)]) pl13 rfl rfl (fun m => own_entry 0 rfl rfl) ?_
  have hr_v := T.isRef
  have T0 := T
  have J0 := J
  refine WP.aloadN d13_0 rfl rfl (pc' := 1) rfl ?_
  refine WP.aloadN d13_1 rfl rfl (pc' := 2) rfl ?_
  refine WP.getf (i := 0) (v := v) d13_2 (w102 hw) O_s rfl rfl (pc' := 5) rfl ?_
  refine WP.newobj (lay := L_ND) (vs := [.null, (.long 0), .null, (.long 0), .null, .null]) d13_5 (w104 hw) (w105 hw) (w106 hw) (lay_ND hw) rfl (by decide) (by decide) (pc' := 8) rfl ?_
  intro b h1 eb_b g_b K2 O_b
  have lt_s_b : s < b := by rw [eb_b]; exact O_s.lt
  replace J := J.keep K2 (fun z hz => own_nil)
  replace T := T.keep K2 (fun z hz => own_nil)
  replace O_s := O_s.keep K2 own_nil
  have n_b_ws : b ∉ ws := fun q => absurd (T0.nodes b q).1.lt (by rw [eb_b]; exact Nat.lt_irrefl _)
  have n_b_jn : b ≠ jn := fun q => absurd (J0 jn hjn).lt (by rw [← q, eb_b]; exact Nat.lt_irrefl _)
  refine WP.dup d13_8 rfl (pc' := 9) rfl ?_
  refine WP.aloadN d13_9 rfl rfl (pc' := 10) rfl ?_
  refine WP.callI (a := b) (y := (⟨"com/example/apportion/apportion/JobsByStart$Node", "<init>", "(Lcom/example/apportion/apportion/GridJob;)V"⟩ : MethodName)) (By := B14) (as := [(.ref jn)]) (rest := [(.ref b), v, (.ref s)]) d13_10 (w107 hw) (w108 hw) (w106 hw) (w109 hw) rfl rfl (by decide) (ndi_met hw b jn _ _ g_b O_b (J jn hjn) n_b_jn) pd_12 rfl rfl rfl (by decide) (by simp only [List.map_cons, List.map_nil, own_catR hr_v]; exact Nat.le_of_ble_eq_true rfl) (by decide) (by decide) (pc' := 13) rfl ?_
  rintro _ h3 ⟨rfl, Kc, pr, O_n⟩
  replace J := J.keep Kc (fun z hz => (own_cons (J.off hz O_b.1) own_nil))
  replace T := T.keep Kc (fun z hz => (own_cons (fun q => n_b_ws (q ▸ hz)) own_nil))
  replace O_s := O_s.keep Kc (own_cons (by first | assumption | exact Ne.symm (by assumption) | exact Nat.ne_of_lt (by assumption) | exact Nat.ne_of_gt (by assumption)) own_nil)
  replace O_b := O_n
  show WP _ _ _ _ _ _ _ _ _ _ [(.ref b), v, (.ref s)]
  refine WP.callS (y := (⟨"com/example/apportion/apportion/JobsByStart", "insert", "(Lcom/example/apportion/apportion/JobsByStart$Node;Lcom/example/apportion/apportion/JobsByStart$Node;)Lcom/example/apportion/apportion/JobsByStart$Node;"⟩ : MethodName)) (By := Bi0) (as := [v, (.ref b)]) (rest := [(.ref s)]) d13_13 (w128 hw) (w129 hw) (w2 hw) (w130 hw) (by decide) (ins0 hw JS sf nf J v js ws T b jn jn pr 0 O_b hjn hjn g_b n_b_ws hnd hso hcmp) pd_9 rfl rfl rfl (by decide) (Nat.le_of_ble_eq_true rfl) (by decide) (by decide) (pc' := 16) rfl ?_
  rintro _ h4 ⟨v1, js1, ws1, rfl, hv1, T1, so1, mj1, nd1, mw1, Ki⟩
  have hr_v1 := T1.isRef
  have Eo : ∀ y ∈ b :: ws, Exa Z h3 y "com/example/apportion/apportion/JobsByStart$Node" := fun y hy => by rcases List.mem_cons.mp hy with rfl | q; exact O_b.1; exact (T.nodes y q).1
  replace J := J.keep Ki (J.offs Eo)
  replace O_s := O_s.keep Ki (fun q => ne_exa O_s.1 (Eo s q) (by decide) rfl)
  have n_s_ws1 : s ∉ ws1 := T1.off O_s.1
  show WP _ _ _ _ _ _ _ _ _ _ [v1, (.ref s)]
  refine WP.putf (i := 0) d13_16 (w102 hw) O_s (lay_TS hw) (by decide) rfl (Or.inl (w103 hw)) (w1 hw) (t := (.object "com/example/apportion/apportion/JobsByStart$Node")) (by decide) (own_narR hr_v1) (own_fitR hr_v1) g_s (pc' := 19) rfl ?_
  intro h5 K6 O_n
  replace J := J.keep K6 (fun z hz => (own_cons (J.offT hz O_s.1) own_nil))
  replace T1 := T1.keep K6 (fun z hz => (own_cons (fun q => n_s_ws1 (q ▸ hz)) own_nil))
  replace O_s : Ob Z h5 s "com/example/apportion/apportion/JobsByStart" L_TS [v1] := O_n
  clear O_n
  exact WP.ret0 d13_19 rfl (by decide) (by decide) ⟨rfl, v1, js1, ws1, O_s, T1, so1, mj1, nd1, J⟩
theorem add1 {l : Launch} {Z : State} {a0 : Array Value} (hw : HW Z a0) {n0 : Nat} {h : Heap} (JS : List Addr) (sf nf : Addr → Int64) (J : JOK Z h JS sf nf) (s : Addr) (v : Value) (js ws : List Addr) (O_s : Ob Z h s "com/example/apportion/apportion/JobsByStart" L_TS [v]) (g_s : n0 ≤ s) (T : TR Z n0 JS h 1 v js ws) (jn : Addr) (hjn : jn ∈ JS) (hnd : ws.Nodup) (hso : js.Pairwise (lt sf nf)) (hcmp : ∀ x ∈ js, lt sf nf jn x ∨ lt sf nf x jn) : OMet l (⟨"com/example/apportion/apportion/JobsByStart", "add", "(Lcom/example/apportion/apportion/GridJob;)V"⟩ : MethodName) B13 Z n0 #[(.ref s), (.ref jn)] h (fun r h' => r = none ∧ ∃ (v' : Value) (js' ws' : List Addr), Ob Z h' s "com/example/apportion/apportion/JobsByStart" L_TS [v'] ∧ TR Z n0 JS h' 2 v' js' ws' ∧ js'.Pairwise (lt sf nf) ∧ (∀ x, x ∈ js' ↔ x = jn ∨ x ∈ js) ∧ ws'.Nodup ∧ JOK Z h' JS sf nf) := by
  refine OMet.of_wp (ls0 := #[.val (.ref s), .val (.ref jn)]) pl13 rfl rfl (fun m => own_entry 0 rfl rfl) ?_
  have hr_v := T.isRef
  have T0 := T
  have J0 := J
  refine WP.aloadN d13_0 rfl rfl (pc' := 1) rfl ?_
  refine WP.aloadN d13_1 rfl rfl (pc' := 2) rfl ?_
  refine WP.getf (i := 0) (v := v) d13_2 (w102 hw) O_s rfl rfl (pc' := 5) rfl ?_
  refine WP.newobj (lay := L_ND) (vs := [.null, (.long 0), .null, (.long 0), .null, .null]) d13_5 (w104 hw) (w105 hw) (w106 hw) (lay_ND hw) rfl (by decide) (by decide) (pc' := 8) rfl ?_
  intro b h1 eb_b g_b K2 O_b
  have lt_s_b : s < b := by rw [eb_b]; exact O_s.lt
  replace J := J.keep K2 (fun z hz => own_nil)
  replace T := T.keep K2 (fun z hz => own_nil)
  replace O_s := O_s.keep K2 own_nil
  have n_b_ws : b ∉ ws := fun q => absurd (T0.nodes b q).1.lt (by rw [eb_b]; exact Nat.lt_irrefl _)
  have n_b_jn : b ≠ jn := fun q => absurd (J0 jn hjn).lt (by rw [← q, eb_b]; exact Nat.lt_irrefl _)
  refine WP.dup d13_8 rfl (pc' := 9) rfl ?_
  refine WP.aloadN d13_9 rfl rfl (pc' := 10) rfl ?_
  refine WP.callI (a := b) (y := (⟨"com/example/apportion/apportion/JobsByStart$Node", "<init>", "(Lcom/example/apportion/apportion/GridJob;)V"⟩ : MethodName)) (By := B14) (as := [(.ref jn)]) (rest := [(.ref b), v, (.ref s)]) d13_10 (w107 hw) (w108 hw) (w106 hw) (w109 hw) rfl rfl (by decide) (ndi_met hw b jn _ _ g_b O_b (J jn hjn) n_b_jn) pd_12 rfl rfl rfl (by decide) (by simp only [List.map_cons, List.map_nil, own_catR hr_v]; exact Nat.le_of_ble_eq_true rfl) (by decide) (by decide) (pc' := 13) rfl ?_
  rintro _ h3 ⟨rfl, Kc, pr, O_n⟩
  replace J := J.keep Kc (fun z hz => (own_cons (J.off hz O_b.1) own_nil))
  replace T := T.keep Kc (fun z hz => (own_cons (fun q => n_b_ws (q ▸ hz)) own_nil))
  replace O_s := O_s.keep Kc (own_cons (by first | assumption | exact Ne.symm (by assumption) | exact Nat.ne_of_lt (by assumption) | exact Nat.ne_of_gt (by assumption)) own_nil)
  replace O_b := O_n
  show WP _ _ _ _ _ _ _ _ _ _ [(.ref b), v, (.ref s)]
  refine WP.callS (y := (⟨"com/example/apportion/apportion/JobsByStart", "insert", "(Lcom/example/apportion/apportion/JobsByStart$Node;Lcom/example/apportion/apportion/JobsByStart$Node;)Lcom/example/apportion/apportion/JobsByStart$Node;"⟩ : MethodName)) (By := Bi1) (as := [v, (.ref b)]) (rest := [(.ref s)]) d13_13 (w128 hw) (w129 hw) (w2 hw) (w130 hw) (by decide) (ins1 hw JS sf nf J v js ws T b jn jn pr 0 O_b hjn hjn g_b n_b_ws hnd hso hcmp) pd_9 rfl rfl rfl (by decide) (Nat.le_of_ble_eq_true rfl) (by decide) (by decide) (pc' := 16) rfl ?_
  rintro _ h4 ⟨v1, js1, ws1, rfl, hv1, T1, so1, mj1, nd1, mw1, Ki⟩
  have hr_v1 := T1.isRef
  have Eo : ∀ y ∈ b :: ws, Exa Z h3 y "com/example/apportion/apportion/JobsByStart$Node" := fun y hy => by rcases List.mem_cons.mp hy with rfl | q; exact O_b.1; exact (T.nodes y q).1
  replace J := J.keep Ki (J.offs Eo)
  replace O_s := O_s.keep Ki (fun q => ne_exa O_s.1 (Eo s q) (by decide) rfl)
  have n_s_ws1 : s ∉ ws1 := T1.off O_s.1
  show WP _ _ _ _ _ _ _ _ _ _ [v1, (.ref s)]
  refine WP.putf (i := 0) d13_16 (w102 hw) O_s (lay_TS hw) (by decide) rfl (Or.inl (w103 hw)) (w1 hw) (t := (.object "com/example/apportion/apportion/JobsByStart$Node")) (by decide) (own_narR hr_v1) (own_fitR hr_v1) g_s (pc' := 19) rfl ?_
  intro h5 K6 O_n
  replace J := J.keep K6 (fun z hz => (own_cons (J.offT hz O_s.1) own_nil))
  replace T1 := T1.keep K6 (fun z hz => (own_cons (fun q => n_s_ws1 (q ▸ hz)) own_nil))
  replace O_s : Ob Z h5 s "com/example/apportion/apportion/JobsByStart" L_TS [v1] := O_n
  clear O_n
  exact WP.ret0 d13_19 rfl (by decide) (by decide) ⟨rfl, v1, js1, ws1, O_s, T1, so1, mj1, nd1, J⟩
theorem add2 {l : Launch} {Z : State} {a0 : Array Value} (hw : HW Z a0) {n0 : Nat} {h : Heap} (JS : List Addr) (sf nf : Addr → Int64) (J : JOK Z h JS sf nf) (s : Addr) (v : Value) (js ws : List Addr) (O_s : Ob Z h s "com/example/apportion/apportion/JobsByStart" L_TS [v]) (g_s : n0 ≤ s) (T : TR Z n0 JS h 2 v js ws) (jn : Addr) (hjn : jn ∈ JS) (hnd : ws.Nodup) (hso : js.Pairwise (lt sf nf)) (hcmp : ∀ x ∈ js, lt sf nf jn x ∨ lt sf nf x jn) : OMet l (⟨"com/example/apportion/apportion/JobsByStart", "add", "(Lcom/example/apportion/apportion/GridJob;)V"⟩ : MethodName) B13 Z n0 #[(.ref s), (.ref jn)] h (fun r h' => r = none ∧ ∃ (v' : Value) (js' ws' : List Addr), Ob Z h' s "com/example/apportion/apportion/JobsByStart" L_TS [v'] ∧ TR Z n0 JS h' 3 v' js' ws' ∧ js'.Pairwise (lt sf nf) ∧ (∀ x, x ∈ js' ↔ x = jn ∨ x ∈ js) ∧ ws'.Nodup ∧ JOK Z h' JS sf nf) := by
  refine OMet.of_wp (ls0 := #[.val (.ref s), .val (.ref jn)]) pl13 rfl rfl (fun m => own_entry 0 rfl rfl) ?_
  have hr_v := T.isRef
  have T0 := T
  have J0 := J
  refine WP.aloadN d13_0 rfl rfl (pc' := 1) rfl ?_
  refine WP.aloadN d13_1 rfl rfl (pc' := 2) rfl ?_
  refine WP.getf (i := 0) (v := v) d13_2 (w102 hw) O_s rfl rfl (pc' := 5) rfl ?_
  refine WP.newobj (lay := L_ND) (vs := [.null, (.long 0), .null, (.long 0), .null, .null]) d13_5 (w104 hw) (w105 hw) (w106 hw) (lay_ND hw) rfl (by decide) (by decide) (pc' := 8) rfl ?_
  intro b h1 eb_b g_b K2 O_b
  have lt_s_b : s < b := by rw [eb_b]; exact O_s.lt
  replace J := J.keep K2 (fun z hz => own_nil)
  replace T := T.keep K2 (fun z hz => own_nil)
  replace O_s := O_s.keep K2 own_nil
  have n_b_ws : b ∉ ws := fun q => absurd (T0.nodes b q).1.lt (by rw [eb_b]; exact Nat.lt_irrefl _)
  have n_b_jn : b ≠ jn := fun q => absurd (J0 jn hjn).lt (by rw [← q, eb_b]; exact Nat.lt_irrefl _)
  refine WP.dup d13_8 rfl (pc' := 9) rfl ?_
  refine WP.aloadN d13_9 rfl rfl (pc' := 10) rfl ?_
  refine WP.callI (a := b) (y := (⟨"com/example/apportion/apportion/JobsByStart$Node", "<init>", "(Lcom/example/apportion/apportion/GridJob;)V"⟩ : MethodName)) (By := B14) (as := [(.ref jn)]) (rest := [(.ref b), v, (.ref s)]) d13_10 (w107 hw) (w108 hw) (w106 hw) (w109 hw) rfl rfl (by decide) (ndi_met hw b jn _ _ g_b O_b (J jn hjn) n_b_jn) pd_12 rfl rfl rfl (by decide) (by simp only [List.map_cons, List.map_nil, own_catR hr_v]; exact Nat.le_of_ble_eq_true rfl) (by decide) (by decide) (pc' := 13) rfl ?_
  rintro _ h3 ⟨rfl, Kc, pr, O_n⟩
  replace J := J.keep Kc (fun z hz => (own_cons (J.off hz O_b.1) own_nil))
  replace T := T.keep Kc (fun z hz => (own_cons (fun q => n_b_ws (q ▸ hz)) own_nil))
  replace O_s := O_s.keep Kc (own_cons (by first | assumption | exact Ne.symm (by assumption) | exact Nat.ne_of_lt (by assumption) | exact Nat.ne_of_gt (by assumption)) own_nil)
  replace O_b := O_n
  show WP _ _ _ _ _ _ _ _ _ _ [(.ref b), v, (.ref s)]
  refine WP.callS (y := (⟨"com/example/apportion/apportion/JobsByStart", "insert", "(Lcom/example/apportion/apportion/JobsByStart$Node;Lcom/example/apportion/apportion/JobsByStart$Node;)Lcom/example/apportion/apportion/JobsByStart$Node;"⟩ : MethodName)) (By := Bi2) (as := [v, (.ref b)]) (rest := [(.ref s)]) d13_13 (w128 hw) (w129 hw) (w2 hw) (w130 hw) (by decide) (ins2 hw JS sf nf J v js ws T b jn jn pr 0 O_b hjn hjn g_b n_b_ws hnd hso hcmp) pd_9 rfl rfl rfl (by decide) (Nat.le_of_ble_eq_true rfl) (by decide) (by decide) (pc' := 16) rfl ?_
  rintro _ h4 ⟨v1, js1, ws1, rfl, hv1, T1, so1, mj1, nd1, mw1, Ki⟩
  have hr_v1 := T1.isRef
  have Eo : ∀ y ∈ b :: ws, Exa Z h3 y "com/example/apportion/apportion/JobsByStart$Node" := fun y hy => by rcases List.mem_cons.mp hy with rfl | q; exact O_b.1; exact (T.nodes y q).1
  replace J := J.keep Ki (J.offs Eo)
  replace O_s := O_s.keep Ki (fun q => ne_exa O_s.1 (Eo s q) (by decide) rfl)
  have n_s_ws1 : s ∉ ws1 := T1.off O_s.1
  show WP _ _ _ _ _ _ _ _ _ _ [v1, (.ref s)]
  refine WP.putf (i := 0) d13_16 (w102 hw) O_s (lay_TS hw) (by decide) rfl (Or.inl (w103 hw)) (w1 hw) (t := (.object "com/example/apportion/apportion/JobsByStart$Node")) (by decide) (own_narR hr_v1) (own_fitR hr_v1) g_s (pc' := 19) rfl ?_
  intro h5 K6 O_n
  replace J := J.keep K6 (fun z hz => (own_cons (J.offT hz O_s.1) own_nil))
  replace T1 := T1.keep K6 (fun z hz => (own_cons (fun q => n_s_ws1 (q ▸ hz)) own_nil))
  replace O_s : Ob Z h5 s "com/example/apportion/apportion/JobsByStart" L_TS [v1] := O_n
  clear O_n
  exact WP.ret0 d13_19 rfl (by decide) (by decide) ⟨rfl, v1, js1, ws1, O_s, T1, so1, mj1, nd1, J⟩
theorem rem_met {l : Launch} {Z : State} {a0 : Array Value} (hw : HW Z a0) {n0 : Nat} {h : Heap} (JS : List Addr) (sf nf : Addr → Int64) (J : JOK Z h JS sf nf) (s : Addr) (v : Value) (js ws : List Addr) (O_s : Ob Z h s "com/example/apportion/apportion/JobsByStart" L_TS [v]) (g_s : n0 ≤ s) (T : TR Z n0 JS h 3 v js ws) (jn : Addr) (hjn : jn ∈ JS) (hnd : ws.Nodup) (hso : js.Pairwise (lt sf nf)) (hx : jn ∈ js) : OMet l (⟨"com/example/apportion/apportion/JobsByStart", "remove", "(Lcom/example/apportion/apportion/GridJob;)V"⟩ : MethodName) B23 Z n0 #[(.ref s), (.ref jn)] h (fun r h' => r = none ∧ ∃ (v' : Value) (js' ws' : List Addr), Ob Z h' s "com/example/apportion/apportion/JobsByStart" L_TS [v'] ∧ TR Z n0 JS h' 4 v' js' ws' ∧ js'.Pairwise (lt sf nf) ∧ (∀ x, x ∈ js' ↔ x ∈ js ∧ x ≠ jn) ∧ JOK Z h' JS sf nf) := by
  refine OMet.of_wp (ls0 := #[.val (.ref s), .val (.ref jn)]) pl23 rfl rfl (fun m => own_entry 0 rfl rfl) ?_
  have hr_v := T.isRef
  refine WP.aloadN d23_0 rfl rfl (pc' := 1) rfl ?_
  refine WP.aloadN d23_1 rfl rfl (pc' := 2) rfl ?_
  refine WP.getf (i := 0) (v := v) d23_2 (w102 hw) O_s rfl rfl (pc' := 5) rfl ?_
  refine WP.aloadN d23_5 rfl rfl (pc' := 6) rfl ?_
  refine WP.callS (y := (⟨"com/example/apportion/apportion/JobsByStart", "without", "(Lcom/example/apportion/apportion/JobsByStart$Node;Lcom/example/apportion/apportion/GridJob;)Lcom/example/apportion/apportion/JobsByStart$Node;"⟩ : MethodName)) (By := Bw3) (as := [v, (.ref jn)]) (rest := [(.ref s)]) d23_6 (w171 hw) (w172 hw) (w2 hw) (w173 hw) (by decide) (wou3 hw JS sf nf J v js ws T hnd hso jn hx) pd_11 rfl rfl rfl (by decide) (Nat.le_of_ble_eq_true rfl) (by decide) (by decide) (pc' := 9) rfl ?_
  rintro _ h1 ⟨v3, js3, w3, rfl, T3, so3, mj3, mw3, Kc⟩
  have hr_v3 := T3.isRef
  replace J := J.keep Kc (J.offs (fun y hy => (T.nodes y hy).1))
  replace O_s := O_s.keep Kc (T.off O_s.1)
  have n_s_w3 : s ∉ w3 := T3.off O_s.1
  show WP _ _ _ _ _ _ _ _ _ _ [v3, (.ref s)]
  refine WP.putf (i := 0) d23_9 (w102 hw) O_s (lay_TS hw) (by decide) rfl (Or.inl (w103 hw)) (w1 hw) (t := (.object "com/example/apportion/apportion/JobsByStart$Node")) (by decide) (own_narR hr_v3) (own_fitR hr_v3) g_s (pc' := 12) rfl ?_
  intro h2 K3 O_n
  replace J := J.keep K3 (fun z hz => (own_cons (J.offT hz O_s.1) own_nil))
  replace T3 := T3.keep K3 (fun z hz => (own_cons (fun q => n_s_w3 (q ▸ hz)) own_nil))
  replace O_s : Ob Z h2 s "com/example/apportion/apportion/JobsByStart" L_TS [v3] := O_n
  clear O_n
  exact WP.ret0 d23_12 rfl (by decide) (by decide) ⟨rfl, v3, js3, w3, O_s, T3, so3, mj3, J⟩
theorem three {x y z : Addr} (n1 : x ≠ y) (n2 : x ≠ z) (n3 : y ≠ z) (a b c : Int64) : ∃ f : Addr → Int64, f x = a ∧ f y = b ∧ f z = c := ⟨fun w => if w = x then a else if w = y then b else c, by simp, by simp [Ne.symm n1], by simp [Ne.symm n2, Ne.symm n3]⟩
theorem nums (n : Int64) : n.toInt ≠ (n + (1 : Int64)).toInt ∧ n.toInt ≠ (n + (2 : Int64)).toInt ∧ (n + (1 : Int64)).toInt ≠ (n + (2 : Int64)).toInt := by
  have r := own_r64 n
  have e1 : (n + (1 : Int64)).toInt = (n.toInt + 1).bmod (2 ^ 64) := by rw [Int64.toInt_add]; rfl
  have e2 : (n + (2 : Int64)).toInt = (n.toInt + 2).bmod (2 ^ 64) := by rw [Int64.toInt_add]; rfl
  rw [e1, e2, Int.bmod_def, Int.bmod_def]
  refine ⟨?_, ?_, ?_⟩ <;> (repeat' split) <;> omega
theorem law_111_0_0 {l : Launch} {Z : State} {a0 : Array Value} (hw : HW Z a0) {n0 : Nat} {h : Heap} (s0 s1 s2 n : Int64) (k : Int32) (s r ja jb jc : Addr) (n_ab : ja ≠ jb) (n_ac : ja ≠ jc) (n_bc : jb ≠ jc) (sf nf : Addr → Int64) (J : JOK Z h [ja, jb, jc] sf nf) (O_s : Ob Z h s "com/example/apportion/apportion/JobsByStart" L_TS [.null]) (g_s : n0 ≤ s) (hN : (nf ja).toInt ≠ (nf jb).toInt ∧ (nf ja).toInt ≠ (nf jc).toInt ∧ (nf jb).toInt ≠ (nf jc).toInt) : WP l B0 Z n0 (fun v h' => v = some (.int 1)) h 5 44 111 #[.val (.long s0), .second, .val (.long s1), .second, .val (.long s2), .second, .val (.long n), .second, .val (.int k), .val (.int (0 : Int32)), .val (.int (0 : Int32)), .val (.ref s), .val (.ref r), .val (.ref ja), .val (.ref jb), .val (.ref jc), .unset, .unset, .unset, .unset] [] := by
  have k32_0 : (0 : Int32).toInt = 0 := by decide
  have k32_1 : (1 : Int32).toInt = 1 := by decide
  have k32_2 : (2 : Int32).toInt = 2 := by decide
  have k32_3 : (3 : Int32).toInt = 3 := by decide
  refine WP.iload at_111 rfl (pc' := 113) rfl ?_
  refine WP.iconst at_113 (z := (1 : Int32)) rfl (pc' := 114) rfl ?_
  refine WP.icmpLt at_114 (tgt := 124) (by decide) (pc' := 117) rfl (fun c114 => ?_) (fun c114 => ?_)
  ·
    refine WP.iload at_124 rfl (pc' := 126) rfl ?_
    refine WP.iconst at_126 (z := (2 : Int32)) rfl (pc' := 127) rfl ?_
    refine WP.icmpLt at_127 (tgt := 137) (by decide) (pc' := 130) rfl (fun c127 => ?_) (fun c127 => ?_)
    ·
      refine WP.iload at_137 rfl (pc' := 139) rfl ?_
      refine WP.iconst at_139 (z := (3 : Int32)) rfl (pc' := 140) rfl ?_
      refine WP.icmpLt at_140 (tgt := 150) (by decide) (pc' := 143) rfl (fun c140 => ?_) (fun c140 => ?_)
      ·
        refine WP.iload at_150 rfl (pc' := 152) rfl ?_
        refine WP.iconst at_152 (z := (2 : Int32)) rfl (pc' := 153) rfl ?_
        refine WP.icmpLt at_153 (tgt := 168) (by decide) (pc' := 156) rfl (fun c153 => ?_) (fun c153 => ?_)
        ·
          refine WP.iload at_168 rfl (pc' := 170) rfl ?_
          refine WP.iconst at_170 (z := (1 : Int32)) rfl (pc' := 171) rfl ?_
          refine WP.icmpLt at_171 (tgt := 178) (by decide) (pc' := 174) rfl (fun c171 => ?_) (fun c171 => ?_)
          ·
            refine WP.iconst at_178 (z := (0 : Int32)) rfl (pc' := 179) rfl ?_
            refine WP.istore at_179 (pc' := 181) rfl (ls' := #[.val (.long s0), .second, .val (.long s1), .second, .val (.long s2), .second, .val (.long n), .second, .val (.int k), .val (.int (0 : Int32)), .val (.int (0 : Int32)), .val (.ref s), .val (.ref r), .val (.ref ja), .val (.ref jb), .val (.ref jc), .val (.int (0 : Int32)), .unset, .unset, .unset]) rfl ?_
            refine WP.iload at_181 rfl (pc' := 183) rfl ?_
            refine WP.iconst at_183 (z := (2 : Int32)) rfl (pc' := 184) rfl ?_
            refine WP.icmpLt at_184 (tgt := 196) (by decide) (pc' := 187) rfl (fun c184 => ?_) (fun c184 => ?_)
            ·
              refine WP.iconst at_196 (z := (0 : Int32)) rfl (pc' := 197) rfl ?_
              refine WP.istore at_197 (pc' := 199) rfl (ls' := #[.val (.long s0), .second, .val (.long s1), .second, .val (.long s2), .second, .val (.long n), .second, .val (.int k), .val (.int (0 : Int32)), .val (.int (0 : Int32)), .val (.ref s), .val (.ref r), .val (.ref ja), .val (.ref jb), .val (.ref jc), .val (.int (0 : Int32)), .val (.int (0 : Int32)), .unset, .unset]) rfl ?_
              refine WP.iload at_199 rfl (pc' := 201) rfl ?_
              refine WP.iconst at_201 (z := (3 : Int32)) rfl (pc' := 202) rfl ?_
              refine WP.icmpLt at_202 (tgt := 209) (by decide) (pc' := 205) rfl (fun c202 => ?_) (fun c202 => ?_)
              ·
                refine WP.iconst at_209 (z := (0 : Int32)) rfl (pc' := 210) rfl ?_
                refine WP.istore at_210 (pc' := 212) rfl (ls' := #[.val (.long s0), .second, .val (.long s1), .second, .val (.long s2), .second, .val (.long n), .second, .val (.int k), .val (.int (0 : Int32)), .val (.int (0 : Int32)), .val (.ref s), .val (.ref r), .val (.ref ja), .val (.ref jb), .val (.ref jc), .val (.int (0 : Int32)), .val (.int (0 : Int32)), .val (.int (0 : Int32)), .unset]) rfl ?_
                refine WP.aconstNull at_212 (pc' := 213) rfl ?_
                refine WP.astore at_213 (pc' := 215) rfl rfl (ls' := #[.val (.long s0), .second, .val (.long s1), .second, .val (.long s2), .second, .val (.long n), .second, .val (.int k), .val (.int (0 : Int32)), .val (.int (0 : Int32)), .val (.ref s), .val (.ref r), .val (.ref ja), .val (.ref jb), .val (.ref jc), .val (.int (0 : Int32)), .val (.int (0 : Int32)), .val (.int (0 : Int32)), .val .null]) rfl ?_
                refine WP.iload at_215 rfl (pc' := 217) rfl ?_
                refine WP.ifEq at_217 (tgt := 224) (by decide) (pc' := 220) rfl (fun c217 => ?_) (fun c217 => ?_)
                ·
                  refine WP.iload at_224 rfl (pc' := 226) rfl ?_
                  refine WP.ifEq at_226 (tgt := 248) (by decide) (pc' := 229) rfl (fun c226 => ?_) (fun c226 => ?_)
                  ·
                    refine WP.iload at_248 rfl (pc' := 250) rfl ?_
                    refine WP.ifEq at_250 (tgt := 272) (by decide) (pc' := 253) rfl (fun c250 => ?_) (fun c250 => ?_)
                    ·
                      refine WP.aload at_272 rfl rfl (pc' := 274) rfl ?_
                      refine WP.callV (a := s) (z := (⟨"com/example/apportion/apportion/JobsByStart", "first", "()Lcom/example/apportion/apportion/GridJob;"⟩ : MethodName)) (Cl := "com/example/apportion/apportion/JobsByStart") (y := (⟨"com/example/apportion/apportion/JobsByStart", "first", "()Lcom/example/apportion/apportion/GridJob;"⟩ : MethodName)) (By := B22) (as := []) (rest := []) at_274 (w160 hw) (w161 hw) (w163 hw) (w162 hw) (w2 hw) (w164 hw) rfl rfl (by decide) O_s.1 (fst_met (JS := [ja, jb, jc]) hw s .null 0 [] [] O_s TR.nil) pd_13 rfl rfl rfl (by decide) (Nat.le_of_ble_eq_true rfl) (by decide) (by decide) (pc' := 277) rfl ?_
                      rintro _ _ ⟨rfl, vf, rfl, hvf⟩
                      have hr_vf : vf.isRef = true := by rw [hvf]; exact hd_ref _
                      show WP _ _ _ _ _ _ _ _ _ _ [vf]
                      refine WP.aload at_277 rfl rfl (pc' := 279) rfl ?_
                      refine WP.acmpNe at_279 (tgt := 286) (by decide) (pc' := 282) rfl hr_vf rfl (fun c279 => ?_) (fun c279 => ?_)
                      · exact absurd hvf c279
                      refine WP.iconst at_282 (z := (1 : Int32)) rfl (pc' := 283) rfl ?_
                      refine WP.goto at_283 (pc' := 287) (by decide) ?_
                      exact WP.retN at_287 (t := .boolean) rfl (by simp) (by decide) (by decide) own_q1
                    exfalso; omega
                  exfalso; omega
                exfalso; omega
              exfalso; omega
            exfalso; omega
          exfalso; omega
        exfalso; omega
      exfalso; omega
    exfalso; omega
  exfalso; omega
theorem law_111_0_1 {l : Launch} {Z : State} {a0 : Array Value} (hw : HW Z a0) {n0 : Nat} {h : Heap} (s0 s1 s2 n : Int64) (k : Int32) (s r ja jb jc : Addr) (n_ab : ja ≠ jb) (n_ac : ja ≠ jc) (n_bc : jb ≠ jc) (sf nf : Addr → Int64) (J : JOK Z h [ja, jb, jc] sf nf) (O_s : Ob Z h s "com/example/apportion/apportion/JobsByStart" L_TS [.null]) (g_s : n0 ≤ s) (hN : (nf ja).toInt ≠ (nf jb).toInt ∧ (nf ja).toInt ≠ (nf jc).toInt ∧ (nf jb).toInt ≠ (nf jc).toInt) : WP l B0 Z n0 (fun v h' => v = some (.int 1)) h 5 44 111 #[.val (.long s0), .second, .val (.long s1), .second, .val (.long s2), .second, .val (.long n), .second, .val (.int k), .val (.int (0 : Int32)), .val (.int (1 : Int32)), .val (.ref s), .val (.ref r), .val (.ref ja), .val (.ref jb), .val (.ref jc), .unset, .unset, .unset, .unset] [] := by
  have k32_0 : (0 : Int32).toInt = 0 := by decide
  have k32_1 : (1 : Int32).toInt = 1 := by decide
  have k32_2 : (2 : Int32).toInt = 2 := by decide
  have k32_3 : (3 : Int32).toInt = 3 := by decide
  refine WP.iload at_111 rfl (pc' := 113) rfl ?_
  refine WP.iconst at_113 (z := (1 : Int32)) rfl (pc' := 114) rfl ?_
  refine WP.icmpLt at_114 (tgt := 124) (by decide) (pc' := 117) rfl (fun c114 => ?_) (fun c114 => ?_)
  ·
    refine WP.iload at_124 rfl (pc' := 126) rfl ?_
    refine WP.iconst at_126 (z := (2 : Int32)) rfl (pc' := 127) rfl ?_
    refine WP.icmpLt at_127 (tgt := 137) (by decide) (pc' := 130) rfl (fun c127 => ?_) (fun c127 => ?_)
    ·
      refine WP.iload at_137 rfl (pc' := 139) rfl ?_
      refine WP.iconst at_139 (z := (3 : Int32)) rfl (pc' := 140) rfl ?_
      refine WP.icmpLt at_140 (tgt := 150) (by decide) (pc' := 143) rfl (fun c140 => ?_) (fun c140 => ?_)
      ·
        refine WP.iload at_150 rfl (pc' := 152) rfl ?_
        refine WP.iconst at_152 (z := (2 : Int32)) rfl (pc' := 153) rfl ?_
        refine WP.icmpLt at_153 (tgt := 168) (by decide) (pc' := 156) rfl (fun c153 => ?_) (fun c153 => ?_)
        ·
          refine WP.iload at_168 rfl (pc' := 170) rfl ?_
          refine WP.iconst at_170 (z := (1 : Int32)) rfl (pc' := 171) rfl ?_
          refine WP.icmpLt at_171 (tgt := 178) (by decide) (pc' := 174) rfl (fun c171 => ?_) (fun c171 => ?_)
          ·
            refine WP.iconst at_178 (z := (0 : Int32)) rfl (pc' := 179) rfl ?_
            refine WP.istore at_179 (pc' := 181) rfl (ls' := #[.val (.long s0), .second, .val (.long s1), .second, .val (.long s2), .second, .val (.long n), .second, .val (.int k), .val (.int (0 : Int32)), .val (.int (1 : Int32)), .val (.ref s), .val (.ref r), .val (.ref ja), .val (.ref jb), .val (.ref jc), .val (.int (0 : Int32)), .unset, .unset, .unset]) rfl ?_
            refine WP.iload at_181 rfl (pc' := 183) rfl ?_
            refine WP.iconst at_183 (z := (2 : Int32)) rfl (pc' := 184) rfl ?_
            refine WP.icmpLt at_184 (tgt := 196) (by decide) (pc' := 187) rfl (fun c184 => ?_) (fun c184 => ?_)
            ·
              refine WP.iconst at_196 (z := (0 : Int32)) rfl (pc' := 197) rfl ?_
              refine WP.istore at_197 (pc' := 199) rfl (ls' := #[.val (.long s0), .second, .val (.long s1), .second, .val (.long s2), .second, .val (.long n), .second, .val (.int k), .val (.int (0 : Int32)), .val (.int (1 : Int32)), .val (.ref s), .val (.ref r), .val (.ref ja), .val (.ref jb), .val (.ref jc), .val (.int (0 : Int32)), .val (.int (0 : Int32)), .unset, .unset]) rfl ?_
              refine WP.iload at_199 rfl (pc' := 201) rfl ?_
              refine WP.iconst at_201 (z := (3 : Int32)) rfl (pc' := 202) rfl ?_
              refine WP.icmpLt at_202 (tgt := 209) (by decide) (pc' := 205) rfl (fun c202 => ?_) (fun c202 => ?_)
              ·
                refine WP.iconst at_209 (z := (0 : Int32)) rfl (pc' := 210) rfl ?_
                refine WP.istore at_210 (pc' := 212) rfl (ls' := #[.val (.long s0), .second, .val (.long s1), .second, .val (.long s2), .second, .val (.long n), .second, .val (.int k), .val (.int (0 : Int32)), .val (.int (1 : Int32)), .val (.ref s), .val (.ref r), .val (.ref ja), .val (.ref jb), .val (.ref jc), .val (.int (0 : Int32)), .val (.int (0 : Int32)), .val (.int (0 : Int32)), .unset]) rfl ?_
                refine WP.aconstNull at_212 (pc' := 213) rfl ?_
                refine WP.astore at_213 (pc' := 215) rfl rfl (ls' := #[.val (.long s0), .second, .val (.long s1), .second, .val (.long s2), .second, .val (.long n), .second, .val (.int k), .val (.int (0 : Int32)), .val (.int (1 : Int32)), .val (.ref s), .val (.ref r), .val (.ref ja), .val (.ref jb), .val (.ref jc), .val (.int (0 : Int32)), .val (.int (0 : Int32)), .val (.int (0 : Int32)), .val .null]) rfl ?_
                refine WP.iload at_215 rfl (pc' := 217) rfl ?_
                refine WP.ifEq at_217 (tgt := 224) (by decide) (pc' := 220) rfl (fun c217 => ?_) (fun c217 => ?_)
                ·
                  refine WP.iload at_224 rfl (pc' := 226) rfl ?_
                  refine WP.ifEq at_226 (tgt := 248) (by decide) (pc' := 229) rfl (fun c226 => ?_) (fun c226 => ?_)
                  ·
                    refine WP.iload at_248 rfl (pc' := 250) rfl ?_
                    refine WP.ifEq at_250 (tgt := 272) (by decide) (pc' := 253) rfl (fun c250 => ?_) (fun c250 => ?_)
                    ·
                      refine WP.aload at_272 rfl rfl (pc' := 274) rfl ?_
                      refine WP.callV (a := s) (z := (⟨"com/example/apportion/apportion/JobsByStart", "first", "()Lcom/example/apportion/apportion/GridJob;"⟩ : MethodName)) (Cl := "com/example/apportion/apportion/JobsByStart") (y := (⟨"com/example/apportion/apportion/JobsByStart", "first", "()Lcom/example/apportion/apportion/GridJob;"⟩ : MethodName)) (By := B22) (as := []) (rest := []) at_274 (w160 hw) (w161 hw) (w163 hw) (w162 hw) (w2 hw) (w164 hw) rfl rfl (by decide) O_s.1 (fst_met (JS := [ja, jb, jc]) hw s .null 0 [] [] O_s TR.nil) pd_13 rfl rfl rfl (by decide) (Nat.le_of_ble_eq_true rfl) (by decide) (by decide) (pc' := 277) rfl ?_
                      rintro _ _ ⟨rfl, vf, rfl, hvf⟩
                      have hr_vf : vf.isRef = true := by rw [hvf]; exact hd_ref _
                      show WP _ _ _ _ _ _ _ _ _ _ [vf]
                      refine WP.aload at_277 rfl rfl (pc' := 279) rfl ?_
                      refine WP.acmpNe at_279 (tgt := 286) (by decide) (pc' := 282) rfl hr_vf rfl (fun c279 => ?_) (fun c279 => ?_)
                      · exact absurd hvf c279
                      refine WP.iconst at_282 (z := (1 : Int32)) rfl (pc' := 283) rfl ?_
                      refine WP.goto at_283 (pc' := 287) (by decide) ?_
                      exact WP.retN at_287 (t := .boolean) rfl (by simp) (by decide) (by decide) own_q1
                    exfalso; omega
                  exfalso; omega
                exfalso; omega
              exfalso; omega
            exfalso; omega
          exfalso; omega
        exfalso; omega
      exfalso; omega
    exfalso; omega
  exfalso; omega
theorem law_111_1_0 {l : Launch} {Z : State} {a0 : Array Value} (hw : HW Z a0) {n0 : Nat} {h : Heap} (s0 s1 s2 n : Int64) (k : Int32) (s r ja jb jc : Addr) (n_ab : ja ≠ jb) (n_ac : ja ≠ jc) (n_bc : jb ≠ jc) (sf nf : Addr → Int64) (J : JOK Z h [ja, jb, jc] sf nf) (O_s : Ob Z h s "com/example/apportion/apportion/JobsByStart" L_TS [.null]) (g_s : n0 ≤ s) (hN : (nf ja).toInt ≠ (nf jb).toInt ∧ (nf ja).toInt ≠ (nf jc).toInt ∧ (nf jb).toInt ≠ (nf jc).toInt) : WP l B0 Z n0 (fun v h' => v = some (.int 1)) h 5 44 111 #[.val (.long s0), .second, .val (.long s1), .second, .val (.long s2), .second, .val (.long n), .second, .val (.int k), .val (.int (1 : Int32)), .val (.int (0 : Int32)), .val (.ref s), .val (.ref r), .val (.ref ja), .val (.ref jb), .val (.ref jc), .unset, .unset, .unset, .unset] [] := by
  have k32_0 : (0 : Int32).toInt = 0 := by decide
  have k32_1 : (1 : Int32).toInt = 1 := by decide
  have k32_2 : (2 : Int32).toInt = 2 := by decide
  have k32_3 : (3 : Int32).toInt = 3 := by decide
  refine WP.iload at_111 rfl (pc' := 113) rfl ?_
  refine WP.iconst at_113 (z := (1 : Int32)) rfl (pc' := 114) rfl ?_
  refine WP.icmpLt at_114 (tgt := 124) (by decide) (pc' := 117) rfl (fun c114 => ?_) (fun c114 => ?_)
  · exfalso; omega
  refine WP.aload at_117 rfl rfl (pc' := 119) rfl ?_
  refine WP.aload at_119 rfl rfl (pc' := 121) rfl ?_
  refine WP.callV (a := s) (z := (⟨"com/example/apportion/apportion/JobsByStart", "add", "(Lcom/example/apportion/apportion/GridJob;)V"⟩ : MethodName)) (Cl := "com/example/apportion/apportion/JobsByStart") (y := (⟨"com/example/apportion/apportion/JobsByStart", "add", "(Lcom/example/apportion/apportion/GridJob;)V"⟩ : MethodName)) (By := B13) (as := [(.ref ja)]) (rest := []) at_121 (w97 hw) (w98 hw) (w100 hw) (w99 hw) (w2 hw) (w101 hw) rfl rfl (by decide) O_s.1 (add0 hw [ja, jb, jc] sf nf J s .null [] [] O_s g_s TR.nil ja (by simp) List.nodup_nil List.Pairwise.nil (fun x hx => by cases hx)) pd_12 rfl rfl rfl (by decide) (Nat.le_of_ble_eq_true rfl) (by decide) (by decide) (pc' := 124) rfl ?_
  rintro _ h1 ⟨rfl, v1, js1, ws1, O_n, T1, so1, mj1, nd1, J1⟩
  replace O_s := O_n
  replace J := J1
  have hr_v1 := T1.isRef
  show WP _ _ _ _ _ _ _ _ _ _ []
  refine WP.iload at_124 rfl (pc' := 126) rfl ?_
  refine WP.iconst at_126 (z := (2 : Int32)) rfl (pc' := 127) rfl ?_
  refine WP.icmpLt at_127 (tgt := 137) (by decide) (pc' := 130) rfl (fun c127 => ?_) (fun c127 => ?_)
  ·
    refine WP.iload at_137 rfl (pc' := 139) rfl ?_
    refine WP.iconst at_139 (z := (3 : Int32)) rfl (pc' := 140) rfl ?_
    refine WP.icmpLt at_140 (tgt := 150) (by decide) (pc' := 143) rfl (fun c140 => ?_) (fun c140 => ?_)
    ·
      refine WP.iload at_150 rfl (pc' := 152) rfl ?_
      refine WP.iconst at_152 (z := (2 : Int32)) rfl (pc' := 153) rfl ?_
      refine WP.icmpLt at_153 (tgt := 168) (by decide) (pc' := 156) rfl (fun c153 => ?_) (fun c153 => ?_)
      ·
        refine WP.iload at_168 rfl (pc' := 170) rfl ?_
        refine WP.iconst at_170 (z := (1 : Int32)) rfl (pc' := 171) rfl ?_
        refine WP.icmpLt at_171 (tgt := 178) (by decide) (pc' := 174) rfl (fun c171 => ?_) (fun c171 => ?_)
        · exfalso; omega
        refine WP.iconst at_174 (z := (1 : Int32)) rfl (pc' := 175) rfl ?_
        refine WP.goto at_175 (pc' := 179) (by decide) ?_
        refine WP.istore at_179 (pc' := 181) rfl (ls' := #[.val (.long s0), .second, .val (.long s1), .second, .val (.long s2), .second, .val (.long n), .second, .val (.int k), .val (.int (1 : Int32)), .val (.int (0 : Int32)), .val (.ref s), .val (.ref r), .val (.ref ja), .val (.ref jb), .val (.ref jc), .val (.int (1 : Int32)), .unset, .unset, .unset]) rfl ?_
        refine WP.iload at_181 rfl (pc' := 183) rfl ?_
        refine WP.iconst at_183 (z := (2 : Int32)) rfl (pc' := 184) rfl ?_
        refine WP.icmpLt at_184 (tgt := 196) (by decide) (pc' := 187) rfl (fun c184 => ?_) (fun c184 => ?_)
        ·
          refine WP.iconst at_196 (z := (0 : Int32)) rfl (pc' := 197) rfl ?_
          refine WP.istore at_197 (pc' := 199) rfl (ls' := #[.val (.long s0), .second, .val (.long s1), .second, .val (.long s2), .second, .val (.long n), .second, .val (.int k), .val (.int (1 : Int32)), .val (.int (0 : Int32)), .val (.ref s), .val (.ref r), .val (.ref ja), .val (.ref jb), .val (.ref jc), .val (.int (1 : Int32)), .val (.int (0 : Int32)), .unset, .unset]) rfl ?_
          refine WP.iload at_199 rfl (pc' := 201) rfl ?_
          refine WP.iconst at_201 (z := (3 : Int32)) rfl (pc' := 202) rfl ?_
          refine WP.icmpLt at_202 (tgt := 209) (by decide) (pc' := 205) rfl (fun c202 => ?_) (fun c202 => ?_)
          ·
            refine WP.iconst at_209 (z := (0 : Int32)) rfl (pc' := 210) rfl ?_
            refine WP.istore at_210 (pc' := 212) rfl (ls' := #[.val (.long s0), .second, .val (.long s1), .second, .val (.long s2), .second, .val (.long n), .second, .val (.int k), .val (.int (1 : Int32)), .val (.int (0 : Int32)), .val (.ref s), .val (.ref r), .val (.ref ja), .val (.ref jb), .val (.ref jc), .val (.int (1 : Int32)), .val (.int (0 : Int32)), .val (.int (0 : Int32)), .unset]) rfl ?_
            refine WP.aconstNull at_212 (pc' := 213) rfl ?_
            refine WP.astore at_213 (pc' := 215) rfl rfl (ls' := #[.val (.long s0), .second, .val (.long s1), .second, .val (.long s2), .second, .val (.long n), .second, .val (.int k), .val (.int (1 : Int32)), .val (.int (0 : Int32)), .val (.ref s), .val (.ref r), .val (.ref ja), .val (.ref jb), .val (.ref jc), .val (.int (1 : Int32)), .val (.int (0 : Int32)), .val (.int (0 : Int32)), .val .null]) rfl ?_
            refine WP.iload at_215 rfl (pc' := 217) rfl ?_
            refine WP.ifEq at_217 (tgt := 224) (by decide) (pc' := 220) rfl (fun c217 => ?_) (fun c217 => ?_)
            · exfalso; omega
            refine WP.aload at_220 rfl rfl (pc' := 222) rfl ?_
            refine WP.astore at_222 (pc' := 224) rfl rfl (ls' := #[.val (.long s0), .second, .val (.long s1), .second, .val (.long s2), .second, .val (.long n), .second, .val (.int k), .val (.int (1 : Int32)), .val (.int (0 : Int32)), .val (.ref s), .val (.ref r), .val (.ref ja), .val (.ref jb), .val (.ref jc), .val (.int (1 : Int32)), .val (.int (0 : Int32)), .val (.int (0 : Int32)), .val (.ref ja)]) rfl ?_
            refine WP.iload at_224 rfl (pc' := 226) rfl ?_
            refine WP.ifEq at_226 (tgt := 248) (by decide) (pc' := 229) rfl (fun c226 => ?_) (fun c226 => ?_)
            ·
              refine WP.iload at_248 rfl (pc' := 250) rfl ?_
              refine WP.ifEq at_250 (tgt := 272) (by decide) (pc' := 253) rfl (fun c250 => ?_) (fun c250 => ?_)
              ·
                refine WP.aload at_272 rfl rfl (pc' := 274) rfl ?_
                refine WP.callV (a := s) (z := (⟨"com/example/apportion/apportion/JobsByStart", "first", "()Lcom/example/apportion/apportion/GridJob;"⟩ : MethodName)) (Cl := "com/example/apportion/apportion/JobsByStart") (y := (⟨"com/example/apportion/apportion/JobsByStart", "first", "()Lcom/example/apportion/apportion/GridJob;"⟩ : MethodName)) (By := B22) (as := []) (rest := []) at_274 (w160 hw) (w161 hw) (w163 hw) (w162 hw) (w2 hw) (w164 hw) rfl rfl (by decide) O_s.1 (fst_met (JS := [ja, jb, jc]) hw s v1 1 js1 ws1 O_s T1) pd_13 rfl rfl rfl (by decide) (Nat.le_of_ble_eq_true rfl) (by decide) (by decide) (pc' := 277) rfl ?_
                rintro _ _ ⟨rfl, vf, rfl, hvf⟩
                have hr_vf : vf.isRef = true := by rw [hvf]; exact hd_ref _
                show WP _ _ _ _ _ _ _ _ _ _ [vf]
                refine WP.aload at_277 rfl rfl (pc' := 279) rfl ?_
                refine WP.acmpNe at_279 (tgt := 286) (by decide) (pc' := 282) rfl hr_vf rfl (fun c279 => ?_) (fun c279 => ?_)
                · exact absurd (hvf.trans (hd_min so1 (by simp [mj1]) (fun y hy hne => by simp only [mj1, List.not_mem_nil, or_false] at hy; rcases hy with rfl <;> first | exact absurd rfl hne | (unfold lt; omega)))) c279
                refine WP.iconst at_282 (z := (1 : Int32)) rfl (pc' := 283) rfl ?_
                refine WP.goto at_283 (pc' := 287) (by decide) ?_
                exact WP.retN at_287 (t := .boolean) rfl (by simp) (by decide) (by decide) own_q1
              exfalso; omega
            exfalso; omega
          exfalso; omega
        exfalso; omega
      exfalso; omega
    exfalso; omega
  exfalso; omega
theorem law_111_1_1 {l : Launch} {Z : State} {a0 : Array Value} (hw : HW Z a0) {n0 : Nat} {h : Heap} (s0 s1 s2 n : Int64) (k : Int32) (s r ja jb jc : Addr) (n_ab : ja ≠ jb) (n_ac : ja ≠ jc) (n_bc : jb ≠ jc) (sf nf : Addr → Int64) (J : JOK Z h [ja, jb, jc] sf nf) (O_s : Ob Z h s "com/example/apportion/apportion/JobsByStart" L_TS [.null]) (g_s : n0 ≤ s) (hN : (nf ja).toInt ≠ (nf jb).toInt ∧ (nf ja).toInt ≠ (nf jc).toInt ∧ (nf jb).toInt ≠ (nf jc).toInt) : WP l B0 Z n0 (fun v h' => v = some (.int 1)) h 5 44 111 #[.val (.long s0), .second, .val (.long s1), .second, .val (.long s2), .second, .val (.long n), .second, .val (.int k), .val (.int (1 : Int32)), .val (.int (1 : Int32)), .val (.ref s), .val (.ref r), .val (.ref ja), .val (.ref jb), .val (.ref jc), .unset, .unset, .unset, .unset] [] := by
  have k32_0 : (0 : Int32).toInt = 0 := by decide
  have k32_1 : (1 : Int32).toInt = 1 := by decide
  have k32_2 : (2 : Int32).toInt = 2 := by decide
  have k32_3 : (3 : Int32).toInt = 3 := by decide
  refine WP.iload at_111 rfl (pc' := 113) rfl ?_
  refine WP.iconst at_113 (z := (1 : Int32)) rfl (pc' := 114) rfl ?_
  refine WP.icmpLt at_114 (tgt := 124) (by decide) (pc' := 117) rfl (fun c114 => ?_) (fun c114 => ?_)
  · exfalso; omega
  refine WP.aload at_117 rfl rfl (pc' := 119) rfl ?_
  refine WP.aload at_119 rfl rfl (pc' := 121) rfl ?_
  refine WP.callV (a := s) (z := (⟨"com/example/apportion/apportion/JobsByStart", "add", "(Lcom/example/apportion/apportion/GridJob;)V"⟩ : MethodName)) (Cl := "com/example/apportion/apportion/JobsByStart") (y := (⟨"com/example/apportion/apportion/JobsByStart", "add", "(Lcom/example/apportion/apportion/GridJob;)V"⟩ : MethodName)) (By := B13) (as := [(.ref ja)]) (rest := []) at_121 (w97 hw) (w98 hw) (w100 hw) (w99 hw) (w2 hw) (w101 hw) rfl rfl (by decide) O_s.1 (add0 hw [ja, jb, jc] sf nf J s .null [] [] O_s g_s TR.nil ja (by simp) List.nodup_nil List.Pairwise.nil (fun x hx => by cases hx)) pd_12 rfl rfl rfl (by decide) (Nat.le_of_ble_eq_true rfl) (by decide) (by decide) (pc' := 124) rfl ?_
  rintro _ h1 ⟨rfl, v1, js1, ws1, O_n, T1, so1, mj1, nd1, J1⟩
  replace O_s := O_n
  replace J := J1
  have hr_v1 := T1.isRef
  show WP _ _ _ _ _ _ _ _ _ _ []
  refine WP.iload at_124 rfl (pc' := 126) rfl ?_
  refine WP.iconst at_126 (z := (2 : Int32)) rfl (pc' := 127) rfl ?_
  refine WP.icmpLt at_127 (tgt := 137) (by decide) (pc' := 130) rfl (fun c127 => ?_) (fun c127 => ?_)
  ·
    refine WP.iload at_137 rfl (pc' := 139) rfl ?_
    refine WP.iconst at_139 (z := (3 : Int32)) rfl (pc' := 140) rfl ?_
    refine WP.icmpLt at_140 (tgt := 150) (by decide) (pc' := 143) rfl (fun c140 => ?_) (fun c140 => ?_)
    ·
      refine WP.iload at_150 rfl (pc' := 152) rfl ?_
      refine WP.iconst at_152 (z := (2 : Int32)) rfl (pc' := 153) rfl ?_
      refine WP.icmpLt at_153 (tgt := 168) (by decide) (pc' := 156) rfl (fun c153 => ?_) (fun c153 => ?_)
      ·
        refine WP.iload at_168 rfl (pc' := 170) rfl ?_
        refine WP.iconst at_170 (z := (1 : Int32)) rfl (pc' := 171) rfl ?_
        refine WP.icmpLt at_171 (tgt := 178) (by decide) (pc' := 174) rfl (fun c171 => ?_) (fun c171 => ?_)
        · exfalso; omega
        refine WP.iconst at_174 (z := (1 : Int32)) rfl (pc' := 175) rfl ?_
        refine WP.goto at_175 (pc' := 179) (by decide) ?_
        refine WP.istore at_179 (pc' := 181) rfl (ls' := #[.val (.long s0), .second, .val (.long s1), .second, .val (.long s2), .second, .val (.long n), .second, .val (.int k), .val (.int (1 : Int32)), .val (.int (1 : Int32)), .val (.ref s), .val (.ref r), .val (.ref ja), .val (.ref jb), .val (.ref jc), .val (.int (1 : Int32)), .unset, .unset, .unset]) rfl ?_
        refine WP.iload at_181 rfl (pc' := 183) rfl ?_
        refine WP.iconst at_183 (z := (2 : Int32)) rfl (pc' := 184) rfl ?_
        refine WP.icmpLt at_184 (tgt := 196) (by decide) (pc' := 187) rfl (fun c184 => ?_) (fun c184 => ?_)
        ·
          refine WP.iconst at_196 (z := (0 : Int32)) rfl (pc' := 197) rfl ?_
          refine WP.istore at_197 (pc' := 199) rfl (ls' := #[.val (.long s0), .second, .val (.long s1), .second, .val (.long s2), .second, .val (.long n), .second, .val (.int k), .val (.int (1 : Int32)), .val (.int (1 : Int32)), .val (.ref s), .val (.ref r), .val (.ref ja), .val (.ref jb), .val (.ref jc), .val (.int (1 : Int32)), .val (.int (0 : Int32)), .unset, .unset]) rfl ?_
          refine WP.iload at_199 rfl (pc' := 201) rfl ?_
          refine WP.iconst at_201 (z := (3 : Int32)) rfl (pc' := 202) rfl ?_
          refine WP.icmpLt at_202 (tgt := 209) (by decide) (pc' := 205) rfl (fun c202 => ?_) (fun c202 => ?_)
          ·
            refine WP.iconst at_209 (z := (0 : Int32)) rfl (pc' := 210) rfl ?_
            refine WP.istore at_210 (pc' := 212) rfl (ls' := #[.val (.long s0), .second, .val (.long s1), .second, .val (.long s2), .second, .val (.long n), .second, .val (.int k), .val (.int (1 : Int32)), .val (.int (1 : Int32)), .val (.ref s), .val (.ref r), .val (.ref ja), .val (.ref jb), .val (.ref jc), .val (.int (1 : Int32)), .val (.int (0 : Int32)), .val (.int (0 : Int32)), .unset]) rfl ?_
            refine WP.aconstNull at_212 (pc' := 213) rfl ?_
            refine WP.astore at_213 (pc' := 215) rfl rfl (ls' := #[.val (.long s0), .second, .val (.long s1), .second, .val (.long s2), .second, .val (.long n), .second, .val (.int k), .val (.int (1 : Int32)), .val (.int (1 : Int32)), .val (.ref s), .val (.ref r), .val (.ref ja), .val (.ref jb), .val (.ref jc), .val (.int (1 : Int32)), .val (.int (0 : Int32)), .val (.int (0 : Int32)), .val .null]) rfl ?_
            refine WP.iload at_215 rfl (pc' := 217) rfl ?_
            refine WP.ifEq at_217 (tgt := 224) (by decide) (pc' := 220) rfl (fun c217 => ?_) (fun c217 => ?_)
            · exfalso; omega
            refine WP.aload at_220 rfl rfl (pc' := 222) rfl ?_
            refine WP.astore at_222 (pc' := 224) rfl rfl (ls' := #[.val (.long s0), .second, .val (.long s1), .second, .val (.long s2), .second, .val (.long n), .second, .val (.int k), .val (.int (1 : Int32)), .val (.int (1 : Int32)), .val (.ref s), .val (.ref r), .val (.ref ja), .val (.ref jb), .val (.ref jc), .val (.int (1 : Int32)), .val (.int (0 : Int32)), .val (.int (0 : Int32)), .val (.ref ja)]) rfl ?_
            refine WP.iload at_224 rfl (pc' := 226) rfl ?_
            refine WP.ifEq at_226 (tgt := 248) (by decide) (pc' := 229) rfl (fun c226 => ?_) (fun c226 => ?_)
            ·
              refine WP.iload at_248 rfl (pc' := 250) rfl ?_
              refine WP.ifEq at_250 (tgt := 272) (by decide) (pc' := 253) rfl (fun c250 => ?_) (fun c250 => ?_)
              ·
                refine WP.aload at_272 rfl rfl (pc' := 274) rfl ?_
                refine WP.callV (a := s) (z := (⟨"com/example/apportion/apportion/JobsByStart", "first", "()Lcom/example/apportion/apportion/GridJob;"⟩ : MethodName)) (Cl := "com/example/apportion/apportion/JobsByStart") (y := (⟨"com/example/apportion/apportion/JobsByStart", "first", "()Lcom/example/apportion/apportion/GridJob;"⟩ : MethodName)) (By := B22) (as := []) (rest := []) at_274 (w160 hw) (w161 hw) (w163 hw) (w162 hw) (w2 hw) (w164 hw) rfl rfl (by decide) O_s.1 (fst_met (JS := [ja, jb, jc]) hw s v1 1 js1 ws1 O_s T1) pd_13 rfl rfl rfl (by decide) (Nat.le_of_ble_eq_true rfl) (by decide) (by decide) (pc' := 277) rfl ?_
                rintro _ _ ⟨rfl, vf, rfl, hvf⟩
                have hr_vf : vf.isRef = true := by rw [hvf]; exact hd_ref _
                show WP _ _ _ _ _ _ _ _ _ _ [vf]
                refine WP.aload at_277 rfl rfl (pc' := 279) rfl ?_
                refine WP.acmpNe at_279 (tgt := 286) (by decide) (pc' := 282) rfl hr_vf rfl (fun c279 => ?_) (fun c279 => ?_)
                · exact absurd (hvf.trans (hd_min so1 (by simp [mj1]) (fun y hy hne => by simp only [mj1, List.not_mem_nil, or_false] at hy; rcases hy with rfl <;> first | exact absurd rfl hne | (unfold lt; omega)))) c279
                refine WP.iconst at_282 (z := (1 : Int32)) rfl (pc' := 283) rfl ?_
                refine WP.goto at_283 (pc' := 287) (by decide) ?_
                exact WP.retN at_287 (t := .boolean) rfl (by simp) (by decide) (by decide) own_q1
              exfalso; omega
            exfalso; omega
          exfalso; omega
        exfalso; omega
      exfalso; omega
    exfalso; omega
  exfalso; omega
theorem law_111_2_0 {l : Launch} {Z : State} {a0 : Array Value} (hw : HW Z a0) {n0 : Nat} {h : Heap} (s0 s1 s2 n : Int64) (k : Int32) (s r ja jb jc : Addr) (n_ab : ja ≠ jb) (n_ac : ja ≠ jc) (n_bc : jb ≠ jc) (sf nf : Addr → Int64) (J : JOK Z h [ja, jb, jc] sf nf) (O_s : Ob Z h s "com/example/apportion/apportion/JobsByStart" L_TS [.null]) (g_s : n0 ≤ s) (hN : (nf ja).toInt ≠ (nf jb).toInt ∧ (nf ja).toInt ≠ (nf jc).toInt ∧ (nf jb).toInt ≠ (nf jc).toInt) : WP l B0 Z n0 (fun v h' => v = some (.int 1)) h 5 44 111 #[.val (.long s0), .second, .val (.long s1), .second, .val (.long s2), .second, .val (.long n), .second, .val (.int k), .val (.int (2 : Int32)), .val (.int (0 : Int32)), .val (.ref s), .val (.ref r), .val (.ref ja), .val (.ref jb), .val (.ref jc), .unset, .unset, .unset, .unset] [] := by
  have k32_0 : (0 : Int32).toInt = 0 := by decide
  have k32_1 : (1 : Int32).toInt = 1 := by decide
  have k32_2 : (2 : Int32).toInt = 2 := by decide
  have k32_3 : (3 : Int32).toInt = 3 := by decide
  refine WP.iload at_111 rfl (pc' := 113) rfl ?_
  refine WP.iconst at_113 (z := (1 : Int32)) rfl (pc' := 114) rfl ?_
  refine WP.icmpLt at_114 (tgt := 124) (by decide) (pc' := 117) rfl (fun c114 => ?_) (fun c114 => ?_)
  · exfalso; omega
  refine WP.aload at_117 rfl rfl (pc' := 119) rfl ?_
  refine WP.aload at_119 rfl rfl (pc' := 121) rfl ?_
  refine WP.callV (a := s) (z := (⟨"com/example/apportion/apportion/JobsByStart", "add", "(Lcom/example/apportion/apportion/GridJob;)V"⟩ : MethodName)) (Cl := "com/example/apportion/apportion/JobsByStart") (y := (⟨"com/example/apportion/apportion/JobsByStart", "add", "(Lcom/example/apportion/apportion/GridJob;)V"⟩ : MethodName)) (By := B13) (as := [(.ref ja)]) (rest := []) at_121 (w97 hw) (w98 hw) (w100 hw) (w99 hw) (w2 hw) (w101 hw) rfl rfl (by decide) O_s.1 (add0 hw [ja, jb, jc] sf nf J s .null [] [] O_s g_s TR.nil ja (by simp) List.nodup_nil List.Pairwise.nil (fun x hx => by cases hx)) pd_12 rfl rfl rfl (by decide) (Nat.le_of_ble_eq_true rfl) (by decide) (by decide) (pc' := 124) rfl ?_
  rintro _ h1 ⟨rfl, v1, js1, ws1, O_n, T1, so1, mj1, nd1, J1⟩
  replace O_s := O_n
  replace J := J1
  have hr_v1 := T1.isRef
  show WP _ _ _ _ _ _ _ _ _ _ []
  refine WP.iload at_124 rfl (pc' := 126) rfl ?_
  refine WP.iconst at_126 (z := (2 : Int32)) rfl (pc' := 127) rfl ?_
  refine WP.icmpLt at_127 (tgt := 137) (by decide) (pc' := 130) rfl (fun c127 => ?_) (fun c127 => ?_)
  · exfalso; omega
  refine WP.aload at_130 rfl rfl (pc' := 132) rfl ?_
  refine WP.aload at_132 rfl rfl (pc' := 134) rfl ?_
  refine WP.callV (a := s) (z := (⟨"com/example/apportion/apportion/JobsByStart", "add", "(Lcom/example/apportion/apportion/GridJob;)V"⟩ : MethodName)) (Cl := "com/example/apportion/apportion/JobsByStart") (y := (⟨"com/example/apportion/apportion/JobsByStart", "add", "(Lcom/example/apportion/apportion/GridJob;)V"⟩ : MethodName)) (By := B13) (as := [(.ref jb)]) (rest := []) at_134 (w97 hw) (w98 hw) (w100 hw) (w99 hw) (w2 hw) (w101 hw) rfl rfl (by decide) O_s.1 (add1 hw [ja, jb, jc] sf nf J s v1 js1 ws1 O_s g_s T1 jb (by simp) nd1 so1 (fun x hx => by simp only [mj1, List.not_mem_nil, or_false] at hx; rcases hx with rfl <;> (unfold lt; omega))) pd_12 rfl rfl rfl (by decide) (Nat.le_of_ble_eq_true rfl) (by decide) (by decide) (pc' := 137) rfl ?_
  rintro _ h2 ⟨rfl, v2, js2, ws2, O_n, T2, so2, mj2, nd2, J1⟩
  replace O_s := O_n
  replace J := J1
  have hr_v2 := T2.isRef
  show WP _ _ _ _ _ _ _ _ _ _ []
  refine WP.iload at_137 rfl (pc' := 139) rfl ?_
  refine WP.iconst at_139 (z := (3 : Int32)) rfl (pc' := 140) rfl ?_
  refine WP.icmpLt at_140 (tgt := 150) (by decide) (pc' := 143) rfl (fun c140 => ?_) (fun c140 => ?_)
  ·
    refine WP.iload at_150 rfl (pc' := 152) rfl ?_
    refine WP.iconst at_152 (z := (2 : Int32)) rfl (pc' := 153) rfl ?_
    refine WP.icmpLt at_153 (tgt := 168) (by decide) (pc' := 156) rfl (fun c153 => ?_) (fun c153 => ?_)
    · exfalso; omega
    refine WP.iload at_156 rfl (pc' := 158) rfl ?_
    refine WP.ifEq at_158 (tgt := 168) (by decide) (pc' := 161) rfl (fun c158 => ?_) (fun c158 => ?_)
    ·
      refine WP.iload at_168 rfl (pc' := 170) rfl ?_
      refine WP.iconst at_170 (z := (1 : Int32)) rfl (pc' := 171) rfl ?_
      refine WP.icmpLt at_171 (tgt := 178) (by decide) (pc' := 174) rfl (fun c171 => ?_) (fun c171 => ?_)
      · exfalso; omega
      refine WP.iconst at_174 (z := (1 : Int32)) rfl (pc' := 175) rfl ?_
      refine WP.goto at_175 (pc' := 179) (by decide) ?_
      refine WP.istore at_179 (pc' := 181) rfl (ls' := #[.val (.long s0), .second, .val (.long s1), .second, .val (.long s2), .second, .val (.long n), .second, .val (.int k), .val (.int (2 : Int32)), .val (.int (0 : Int32)), .val (.ref s), .val (.ref r), .val (.ref ja), .val (.ref jb), .val (.ref jc), .val (.int (1 : Int32)), .unset, .unset, .unset]) rfl ?_
      refine WP.iload at_181 rfl (pc' := 183) rfl ?_
      refine WP.iconst at_183 (z := (2 : Int32)) rfl (pc' := 184) rfl ?_
      refine WP.icmpLt at_184 (tgt := 196) (by decide) (pc' := 187) rfl (fun c184 => ?_) (fun c184 => ?_)
      · exfalso; omega
      refine WP.iload at_187 rfl (pc' := 189) rfl ?_
      refine WP.ifNe at_189 (tgt := 196) (by decide) (pc' := 192) rfl (fun c189 => ?_) (fun c189 => ?_)
      · exfalso; omega
      refine WP.iconst at_192 (z := (1 : Int32)) rfl (pc' := 193) rfl ?_
      refine WP.goto at_193 (pc' := 197) (by decide) ?_
      refine WP.istore at_197 (pc' := 199) rfl (ls' := #[.val (.long s0), .second, .val (.long s1), .second, .val (.long s2), .second, .val (.long n), .second, .val (.int k), .val (.int (2 : Int32)), .val (.int (0 : Int32)), .val (.ref s), .val (.ref r), .val (.ref ja), .val (.ref jb), .val (.ref jc), .val (.int (1 : Int32)), .val (.int (1 : Int32)), .unset, .unset]) rfl ?_
      refine WP.iload at_199 rfl (pc' := 201) rfl ?_
      refine WP.iconst at_201 (z := (3 : Int32)) rfl (pc' := 202) rfl ?_
      refine WP.icmpLt at_202 (tgt := 209) (by decide) (pc' := 205) rfl (fun c202 => ?_) (fun c202 => ?_)
      ·
        refine WP.iconst at_209 (z := (0 : Int32)) rfl (pc' := 210) rfl ?_
        refine WP.istore at_210 (pc' := 212) rfl (ls' := #[.val (.long s0), .second, .val (.long s1), .second, .val (.long s2), .second, .val (.long n), .second, .val (.int k), .val (.int (2 : Int32)), .val (.int (0 : Int32)), .val (.ref s), .val (.ref r), .val (.ref ja), .val (.ref jb), .val (.ref jc), .val (.int (1 : Int32)), .val (.int (1 : Int32)), .val (.int (0 : Int32)), .unset]) rfl ?_
        refine WP.aconstNull at_212 (pc' := 213) rfl ?_
        refine WP.astore at_213 (pc' := 215) rfl rfl (ls' := #[.val (.long s0), .second, .val (.long s1), .second, .val (.long s2), .second, .val (.long n), .second, .val (.int k), .val (.int (2 : Int32)), .val (.int (0 : Int32)), .val (.ref s), .val (.ref r), .val (.ref ja), .val (.ref jb), .val (.ref jc), .val (.int (1 : Int32)), .val (.int (1 : Int32)), .val (.int (0 : Int32)), .val .null]) rfl ?_
        refine WP.iload at_215 rfl (pc' := 217) rfl ?_
        refine WP.ifEq at_217 (tgt := 224) (by decide) (pc' := 220) rfl (fun c217 => ?_) (fun c217 => ?_)
        · exfalso; omega
        refine WP.aload at_220 rfl rfl (pc' := 222) rfl ?_
        refine WP.astore at_222 (pc' := 224) rfl rfl (ls' := #[.val (.long s0), .second, .val (.long s1), .second, .val (.long s2), .second, .val (.long n), .second, .val (.int k), .val (.int (2 : Int32)), .val (.int (0 : Int32)), .val (.ref s), .val (.ref r), .val (.ref ja), .val (.ref jb), .val (.ref jc), .val (.int (1 : Int32)), .val (.int (1 : Int32)), .val (.int (0 : Int32)), .val (.ref ja)]) rfl ?_
        refine WP.iload at_224 rfl (pc' := 226) rfl ?_
        refine WP.ifEq at_226 (tgt := 248) (by decide) (pc' := 229) rfl (fun c226 => ?_) (fun c226 => ?_)
        · exfalso; omega
        refine WP.aload at_229 rfl rfl (pc' := 231) rfl ?_
        refine WP.ifnullN at_231 (pc' := 234) rfl ?_
        refine WP.aload at_234 rfl rfl (pc' := 236) rfl ?_
        refine WP.aload at_236 rfl rfl (pc' := 238) rfl ?_
        refine WP.callS (y := (⟨"com/example/apportion/apportion/JobsByStartFirstPinLaw", "before", "(Lcom/example/apportion/apportion/GridJob;Lcom/example/apportion/apportion/GridJob;)Z"⟩ : MethodName)) (By := B21) (as := [(.ref jb), (.ref ja)]) (rest := []) at_238 (w156 hw) (w157 hw) (w158 hw) (w159 hw) (by decide) (bef_met hw jb ja _ _ _ _ (J _ (by simp)) (J _ (by simp))) pd_8 rfl rfl rfl (by decide) (Nat.le_of_ble_eq_true rfl) (by decide) (by decide) (pc' := 241) rfl ?_
        rintro _ _ ⟨rfl, r238, rfl, hr238⟩
        show WP _ _ _ _ _ _ _ _ _ _ [(.int r238)]
        refine WP.ifEq at_241 (tgt := 248) (by decide) (pc' := 244) rfl (fun c241 => ?_) (fun c241 => ?_)
        ·
          refine WP.iload at_248 rfl (pc' := 250) rfl ?_
          refine WP.ifEq at_250 (tgt := 272) (by decide) (pc' := 253) rfl (fun c250 => ?_) (fun c250 => ?_)
          ·
            refine WP.aload at_272 rfl rfl (pc' := 274) rfl ?_
            refine WP.callV (a := s) (z := (⟨"com/example/apportion/apportion/JobsByStart", "first", "()Lcom/example/apportion/apportion/GridJob;"⟩ : MethodName)) (Cl := "com/example/apportion/apportion/JobsByStart") (y := (⟨"com/example/apportion/apportion/JobsByStart", "first", "()Lcom/example/apportion/apportion/GridJob;"⟩ : MethodName)) (By := B22) (as := []) (rest := []) at_274 (w160 hw) (w161 hw) (w163 hw) (w162 hw) (w2 hw) (w164 hw) rfl rfl (by decide) O_s.1 (fst_met (JS := [ja, jb, jc]) hw s v2 2 js2 ws2 O_s T2) pd_13 rfl rfl rfl (by decide) (Nat.le_of_ble_eq_true rfl) (by decide) (by decide) (pc' := 277) rfl ?_
            rintro _ _ ⟨rfl, vf, rfl, hvf⟩
            have hr_vf : vf.isRef = true := by rw [hvf]; exact hd_ref _
            show WP _ _ _ _ _ _ _ _ _ _ [vf]
            refine WP.aload at_277 rfl rfl (pc' := 279) rfl ?_
            refine WP.acmpNe at_279 (tgt := 286) (by decide) (pc' := 282) rfl hr_vf rfl (fun c279 => ?_) (fun c279 => ?_)
            · exact absurd (hvf.trans (hd_min so2 (by simp [mj2, mj1]) (fun y hy hne => by simp only [mj2, mj1, List.not_mem_nil, or_false] at hy; rcases hy with rfl | rfl <;> first | exact absurd rfl hne | (unfold lt; omega)))) c279
            refine WP.iconst at_282 (z := (1 : Int32)) rfl (pc' := 283) rfl ?_
            refine WP.goto at_283 (pc' := 287) (by decide) ?_
            exact WP.retN at_287 (t := .boolean) rfl (by simp) (by decide) (by decide) own_q1
          exfalso; omega
        refine WP.aload at_244 rfl rfl (pc' := 246) rfl ?_
        refine WP.astore at_246 (pc' := 248) rfl rfl (ls' := #[.val (.long s0), .second, .val (.long s1), .second, .val (.long s2), .second, .val (.long n), .second, .val (.int k), .val (.int (2 : Int32)), .val (.int (0 : Int32)), .val (.ref s), .val (.ref r), .val (.ref ja), .val (.ref jb), .val (.ref jc), .val (.int (1 : Int32)), .val (.int (1 : Int32)), .val (.int (0 : Int32)), .val (.ref jb)]) rfl ?_
        refine WP.iload at_248 rfl (pc' := 250) rfl ?_
        refine WP.ifEq at_250 (tgt := 272) (by decide) (pc' := 253) rfl (fun c250 => ?_) (fun c250 => ?_)
        ·
          refine WP.aload at_272 rfl rfl (pc' := 274) rfl ?_
          refine WP.callV (a := s) (z := (⟨"com/example/apportion/apportion/JobsByStart", "first", "()Lcom/example/apportion/apportion/GridJob;"⟩ : MethodName)) (Cl := "com/example/apportion/apportion/JobsByStart") (y := (⟨"com/example/apportion/apportion/JobsByStart", "first", "()Lcom/example/apportion/apportion/GridJob;"⟩ : MethodName)) (By := B22) (as := []) (rest := []) at_274 (w160 hw) (w161 hw) (w163 hw) (w162 hw) (w2 hw) (w164 hw) rfl rfl (by decide) O_s.1 (fst_met (JS := [ja, jb, jc]) hw s v2 2 js2 ws2 O_s T2) pd_13 rfl rfl rfl (by decide) (Nat.le_of_ble_eq_true rfl) (by decide) (by decide) (pc' := 277) rfl ?_
          rintro _ _ ⟨rfl, vf, rfl, hvf⟩
          have hr_vf : vf.isRef = true := by rw [hvf]; exact hd_ref _
          show WP _ _ _ _ _ _ _ _ _ _ [vf]
          refine WP.aload at_277 rfl rfl (pc' := 279) rfl ?_
          refine WP.acmpNe at_279 (tgt := 286) (by decide) (pc' := 282) rfl hr_vf rfl (fun c279 => ?_) (fun c279 => ?_)
          · exact absurd (hvf.trans (hd_min so2 (by simp [mj2, mj1]) (fun y hy hne => by simp only [mj2, mj1, List.not_mem_nil, or_false] at hy; rcases hy with rfl | rfl <;> first | exact absurd rfl hne | (unfold lt; omega)))) c279
          refine WP.iconst at_282 (z := (1 : Int32)) rfl (pc' := 283) rfl ?_
          refine WP.goto at_283 (pc' := 287) (by decide) ?_
          exact WP.retN at_287 (t := .boolean) rfl (by simp) (by decide) (by decide) own_q1
        exfalso; omega
      exfalso; omega
    exfalso; omega
  exfalso; omega
theorem law_111_2_1 {l : Launch} {Z : State} {a0 : Array Value} (hw : HW Z a0) {n0 : Nat} {h : Heap} (s0 s1 s2 n : Int64) (k : Int32) (s r ja jb jc : Addr) (n_ab : ja ≠ jb) (n_ac : ja ≠ jc) (n_bc : jb ≠ jc) (sf nf : Addr → Int64) (J : JOK Z h [ja, jb, jc] sf nf) (O_s : Ob Z h s "com/example/apportion/apportion/JobsByStart" L_TS [.null]) (g_s : n0 ≤ s) (hN : (nf ja).toInt ≠ (nf jb).toInt ∧ (nf ja).toInt ≠ (nf jc).toInt ∧ (nf jb).toInt ≠ (nf jc).toInt) : WP l B0 Z n0 (fun v h' => v = some (.int 1)) h 5 44 111 #[.val (.long s0), .second, .val (.long s1), .second, .val (.long s2), .second, .val (.long n), .second, .val (.int k), .val (.int (2 : Int32)), .val (.int (1 : Int32)), .val (.ref s), .val (.ref r), .val (.ref ja), .val (.ref jb), .val (.ref jc), .unset, .unset, .unset, .unset] [] := by
  have k32_0 : (0 : Int32).toInt = 0 := by decide
  have k32_1 : (1 : Int32).toInt = 1 := by decide
  have k32_2 : (2 : Int32).toInt = 2 := by decide
  have k32_3 : (3 : Int32).toInt = 3 := by decide
  refine WP.iload at_111 rfl (pc' := 113) rfl ?_
  refine WP.iconst at_113 (z := (1 : Int32)) rfl (pc' := 114) rfl ?_
  refine WP.icmpLt at_114 (tgt := 124) (by decide) (pc' := 117) rfl (fun c114 => ?_) (fun c114 => ?_)
  · exfalso; omega
  refine WP.aload at_117 rfl rfl (pc' := 119) rfl ?_
  refine WP.aload at_119 rfl rfl (pc' := 121) rfl ?_
  refine WP.callV (a := s) (z := (⟨"com/example/apportion/apportion/JobsByStart", "add", "(Lcom/example/apportion/apportion/GridJob;)V"⟩ : MethodName)) (Cl := "com/example/apportion/apportion/JobsByStart") (y := (⟨"com/example/apportion/apportion/JobsByStart", "add", "(Lcom/example/apportion/apportion/GridJob;)V"⟩ : MethodName)) (By := B13) (as := [(.ref ja)]) (rest := []) at_121 (w97 hw) (w98 hw) (w100 hw) (w99 hw) (w2 hw) (w101 hw) rfl rfl (by decide) O_s.1 (add0 hw [ja, jb, jc] sf nf J s .null [] [] O_s g_s TR.nil ja (by simp) List.nodup_nil List.Pairwise.nil (fun x hx => by cases hx)) pd_12 rfl rfl rfl (by decide) (Nat.le_of_ble_eq_true rfl) (by decide) (by decide) (pc' := 124) rfl ?_
  rintro _ h1 ⟨rfl, v1, js1, ws1, O_n, T1, so1, mj1, nd1, J1⟩
  replace O_s := O_n
  replace J := J1
  have hr_v1 := T1.isRef
  show WP _ _ _ _ _ _ _ _ _ _ []
  refine WP.iload at_124 rfl (pc' := 126) rfl ?_
  refine WP.iconst at_126 (z := (2 : Int32)) rfl (pc' := 127) rfl ?_
  refine WP.icmpLt at_127 (tgt := 137) (by decide) (pc' := 130) rfl (fun c127 => ?_) (fun c127 => ?_)
  · exfalso; omega
  refine WP.aload at_130 rfl rfl (pc' := 132) rfl ?_
  refine WP.aload at_132 rfl rfl (pc' := 134) rfl ?_
  refine WP.callV (a := s) (z := (⟨"com/example/apportion/apportion/JobsByStart", "add", "(Lcom/example/apportion/apportion/GridJob;)V"⟩ : MethodName)) (Cl := "com/example/apportion/apportion/JobsByStart") (y := (⟨"com/example/apportion/apportion/JobsByStart", "add", "(Lcom/example/apportion/apportion/GridJob;)V"⟩ : MethodName)) (By := B13) (as := [(.ref jb)]) (rest := []) at_134 (w97 hw) (w98 hw) (w100 hw) (w99 hw) (w2 hw) (w101 hw) rfl rfl (by decide) O_s.1 (add1 hw [ja, jb, jc] sf nf J s v1 js1 ws1 O_s g_s T1 jb (by simp) nd1 so1 (fun x hx => by simp only [mj1, List.not_mem_nil, or_false] at hx; rcases hx with rfl <;> (unfold lt; omega))) pd_12 rfl rfl rfl (by decide) (Nat.le_of_ble_eq_true rfl) (by decide) (by decide) (pc' := 137) rfl ?_
  rintro _ h2 ⟨rfl, v2, js2, ws2, O_n, T2, so2, mj2, nd2, J1⟩
  replace O_s := O_n
  replace J := J1
  have hr_v2 := T2.isRef
  show WP _ _ _ _ _ _ _ _ _ _ []
  refine WP.iload at_137 rfl (pc' := 139) rfl ?_
  refine WP.iconst at_139 (z := (3 : Int32)) rfl (pc' := 140) rfl ?_
  refine WP.icmpLt at_140 (tgt := 150) (by decide) (pc' := 143) rfl (fun c140 => ?_) (fun c140 => ?_)
  ·
    refine WP.iload at_150 rfl (pc' := 152) rfl ?_
    refine WP.iconst at_152 (z := (2 : Int32)) rfl (pc' := 153) rfl ?_
    refine WP.icmpLt at_153 (tgt := 168) (by decide) (pc' := 156) rfl (fun c153 => ?_) (fun c153 => ?_)
    · exfalso; omega
    refine WP.iload at_156 rfl (pc' := 158) rfl ?_
    refine WP.ifEq at_158 (tgt := 168) (by decide) (pc' := 161) rfl (fun c158 => ?_) (fun c158 => ?_)
    · exfalso; omega
    refine WP.aload at_161 rfl rfl (pc' := 163) rfl ?_
    refine WP.aload at_163 rfl rfl (pc' := 165) rfl ?_
    refine WP.callV (a := s) (z := (⟨"com/example/apportion/apportion/JobsByStart", "remove", "(Lcom/example/apportion/apportion/GridJob;)V"⟩ : MethodName)) (Cl := "com/example/apportion/apportion/JobsByStart") (y := (⟨"com/example/apportion/apportion/JobsByStart", "remove", "(Lcom/example/apportion/apportion/GridJob;)V"⟩ : MethodName)) (By := B23) (as := [(.ref jb)]) (rest := []) at_165 (w166 hw) (w167 hw) (w169 hw) (w168 hw) (w2 hw) (w170 hw) rfl rfl (by decide) O_s.1 (rem_met hw [ja, jb, jc] sf nf J s v2 js2 ws2 O_s g_s (T2.le (by decide)) jb (by simp) nd2 so2 (by simp [mj2, mj1])) pd_12 rfl rfl rfl (by decide) (Nat.le_of_ble_eq_true rfl) (by decide) (by decide) (pc' := 168) rfl ?_
    rintro _ h3 ⟨rfl, v9, js9, ws9, O_n, T9, so9, mj9, J1⟩
    replace O_s := O_n
    replace J := J1
    have hr_v9 := T9.isRef
    show WP _ _ _ _ _ _ _ _ _ _ []
    refine WP.iload at_168 rfl (pc' := 170) rfl ?_
    refine WP.iconst at_170 (z := (1 : Int32)) rfl (pc' := 171) rfl ?_
    refine WP.icmpLt at_171 (tgt := 178) (by decide) (pc' := 174) rfl (fun c171 => ?_) (fun c171 => ?_)
    · exfalso; omega
    refine WP.iconst at_174 (z := (1 : Int32)) rfl (pc' := 175) rfl ?_
    refine WP.goto at_175 (pc' := 179) (by decide) ?_
    refine WP.istore at_179 (pc' := 181) rfl (ls' := #[.val (.long s0), .second, .val (.long s1), .second, .val (.long s2), .second, .val (.long n), .second, .val (.int k), .val (.int (2 : Int32)), .val (.int (1 : Int32)), .val (.ref s), .val (.ref r), .val (.ref ja), .val (.ref jb), .val (.ref jc), .val (.int (1 : Int32)), .unset, .unset, .unset]) rfl ?_
    refine WP.iload at_181 rfl (pc' := 183) rfl ?_
    refine WP.iconst at_183 (z := (2 : Int32)) rfl (pc' := 184) rfl ?_
    refine WP.icmpLt at_184 (tgt := 196) (by decide) (pc' := 187) rfl (fun c184 => ?_) (fun c184 => ?_)
    · exfalso; omega
    refine WP.iload at_187 rfl (pc' := 189) rfl ?_
    refine WP.ifNe at_189 (tgt := 196) (by decide) (pc' := 192) rfl (fun c189 => ?_) (fun c189 => ?_)
    ·
      refine WP.iconst at_196 (z := (0 : Int32)) rfl (pc' := 197) rfl ?_
      refine WP.istore at_197 (pc' := 199) rfl (ls' := #[.val (.long s0), .second, .val (.long s1), .second, .val (.long s2), .second, .val (.long n), .second, .val (.int k), .val (.int (2 : Int32)), .val (.int (1 : Int32)), .val (.ref s), .val (.ref r), .val (.ref ja), .val (.ref jb), .val (.ref jc), .val (.int (1 : Int32)), .val (.int (0 : Int32)), .unset, .unset]) rfl ?_
      refine WP.iload at_199 rfl (pc' := 201) rfl ?_
      refine WP.iconst at_201 (z := (3 : Int32)) rfl (pc' := 202) rfl ?_
      refine WP.icmpLt at_202 (tgt := 209) (by decide) (pc' := 205) rfl (fun c202 => ?_) (fun c202 => ?_)
      ·
        refine WP.iconst at_209 (z := (0 : Int32)) rfl (pc' := 210) rfl ?_
        refine WP.istore at_210 (pc' := 212) rfl (ls' := #[.val (.long s0), .second, .val (.long s1), .second, .val (.long s2), .second, .val (.long n), .second, .val (.int k), .val (.int (2 : Int32)), .val (.int (1 : Int32)), .val (.ref s), .val (.ref r), .val (.ref ja), .val (.ref jb), .val (.ref jc), .val (.int (1 : Int32)), .val (.int (0 : Int32)), .val (.int (0 : Int32)), .unset]) rfl ?_
        refine WP.aconstNull at_212 (pc' := 213) rfl ?_
        refine WP.astore at_213 (pc' := 215) rfl rfl (ls' := #[.val (.long s0), .second, .val (.long s1), .second, .val (.long s2), .second, .val (.long n), .second, .val (.int k), .val (.int (2 : Int32)), .val (.int (1 : Int32)), .val (.ref s), .val (.ref r), .val (.ref ja), .val (.ref jb), .val (.ref jc), .val (.int (1 : Int32)), .val (.int (0 : Int32)), .val (.int (0 : Int32)), .val .null]) rfl ?_
        refine WP.iload at_215 rfl (pc' := 217) rfl ?_
        refine WP.ifEq at_217 (tgt := 224) (by decide) (pc' := 220) rfl (fun c217 => ?_) (fun c217 => ?_)
        · exfalso; omega
        refine WP.aload at_220 rfl rfl (pc' := 222) rfl ?_
        refine WP.astore at_222 (pc' := 224) rfl rfl (ls' := #[.val (.long s0), .second, .val (.long s1), .second, .val (.long s2), .second, .val (.long n), .second, .val (.int k), .val (.int (2 : Int32)), .val (.int (1 : Int32)), .val (.ref s), .val (.ref r), .val (.ref ja), .val (.ref jb), .val (.ref jc), .val (.int (1 : Int32)), .val (.int (0 : Int32)), .val (.int (0 : Int32)), .val (.ref ja)]) rfl ?_
        refine WP.iload at_224 rfl (pc' := 226) rfl ?_
        refine WP.ifEq at_226 (tgt := 248) (by decide) (pc' := 229) rfl (fun c226 => ?_) (fun c226 => ?_)
        ·
          refine WP.iload at_248 rfl (pc' := 250) rfl ?_
          refine WP.ifEq at_250 (tgt := 272) (by decide) (pc' := 253) rfl (fun c250 => ?_) (fun c250 => ?_)
          ·
            refine WP.aload at_272 rfl rfl (pc' := 274) rfl ?_
            refine WP.callV (a := s) (z := (⟨"com/example/apportion/apportion/JobsByStart", "first", "()Lcom/example/apportion/apportion/GridJob;"⟩ : MethodName)) (Cl := "com/example/apportion/apportion/JobsByStart") (y := (⟨"com/example/apportion/apportion/JobsByStart", "first", "()Lcom/example/apportion/apportion/GridJob;"⟩ : MethodName)) (By := B22) (as := []) (rest := []) at_274 (w160 hw) (w161 hw) (w163 hw) (w162 hw) (w2 hw) (w164 hw) rfl rfl (by decide) O_s.1 (fst_met (JS := [ja, jb, jc]) hw s v9 4 js9 ws9 O_s T9) pd_13 rfl rfl rfl (by decide) (Nat.le_of_ble_eq_true rfl) (by decide) (by decide) (pc' := 277) rfl ?_
            rintro _ _ ⟨rfl, vf, rfl, hvf⟩
            have hr_vf : vf.isRef = true := by rw [hvf]; exact hd_ref _
            show WP _ _ _ _ _ _ _ _ _ _ [vf]
            refine WP.aload at_277 rfl rfl (pc' := 279) rfl ?_
            refine WP.acmpNe at_279 (tgt := 286) (by decide) (pc' := 282) rfl hr_vf rfl (fun c279 => ?_) (fun c279 => ?_)
            · exact absurd (hvf.trans (hd_min so9 ((mj9 _).mpr ⟨by simp [mj2, mj1], n_ab⟩) (fun y hy hne => by obtain ⟨hy, hz⟩ := (mj9 y).mp hy; simp only [mj2, mj1, List.not_mem_nil, or_false] at hy; rcases hy with rfl | rfl <;> first | exact absurd rfl hne | exact absurd rfl hz | (unfold lt; omega)))) c279
            refine WP.iconst at_282 (z := (1 : Int32)) rfl (pc' := 283) rfl ?_
            refine WP.goto at_283 (pc' := 287) (by decide) ?_
            exact WP.retN at_287 (t := .boolean) rfl (by simp) (by decide) (by decide) own_q1
          exfalso; omega
        exfalso; omega
      exfalso; omega
    exfalso; omega
  exfalso; omega
theorem law_111_3_0 {l : Launch} {Z : State} {a0 : Array Value} (hw : HW Z a0) {n0 : Nat} {h : Heap} (s0 s1 s2 n : Int64) (k : Int32) (s r ja jb jc : Addr) (n_ab : ja ≠ jb) (n_ac : ja ≠ jc) (n_bc : jb ≠ jc) (sf nf : Addr → Int64) (J : JOK Z h [ja, jb, jc] sf nf) (O_s : Ob Z h s "com/example/apportion/apportion/JobsByStart" L_TS [.null]) (g_s : n0 ≤ s) (hN : (nf ja).toInt ≠ (nf jb).toInt ∧ (nf ja).toInt ≠ (nf jc).toInt ∧ (nf jb).toInt ≠ (nf jc).toInt) : WP l B0 Z n0 (fun v h' => v = some (.int 1)) h 5 44 111 #[.val (.long s0), .second, .val (.long s1), .second, .val (.long s2), .second, .val (.long n), .second, .val (.int k), .val (.int (3 : Int32)), .val (.int (0 : Int32)), .val (.ref s), .val (.ref r), .val (.ref ja), .val (.ref jb), .val (.ref jc), .unset, .unset, .unset, .unset] [] := by
  have k32_0 : (0 : Int32).toInt = 0 := by decide
  have k32_1 : (1 : Int32).toInt = 1 := by decide
  have k32_2 : (2 : Int32).toInt = 2 := by decide
  have k32_3 : (3 : Int32).toInt = 3 := by decide
  refine WP.iload at_111 rfl (pc' := 113) rfl ?_
  refine WP.iconst at_113 (z := (1 : Int32)) rfl (pc' := 114) rfl ?_
  refine WP.icmpLt at_114 (tgt := 124) (by decide) (pc' := 117) rfl (fun c114 => ?_) (fun c114 => ?_)
  · exfalso; omega
  refine WP.aload at_117 rfl rfl (pc' := 119) rfl ?_
  refine WP.aload at_119 rfl rfl (pc' := 121) rfl ?_
  refine WP.callV (a := s) (z := (⟨"com/example/apportion/apportion/JobsByStart", "add", "(Lcom/example/apportion/apportion/GridJob;)V"⟩ : MethodName)) (Cl := "com/example/apportion/apportion/JobsByStart") (y := (⟨"com/example/apportion/apportion/JobsByStart", "add", "(Lcom/example/apportion/apportion/GridJob;)V"⟩ : MethodName)) (By := B13) (as := [(.ref ja)]) (rest := []) at_121 (w97 hw) (w98 hw) (w100 hw) (w99 hw) (w2 hw) (w101 hw) rfl rfl (by decide) O_s.1 (add0 hw [ja, jb, jc] sf nf J s .null [] [] O_s g_s TR.nil ja (by simp) List.nodup_nil List.Pairwise.nil (fun x hx => by cases hx)) pd_12 rfl rfl rfl (by decide) (Nat.le_of_ble_eq_true rfl) (by decide) (by decide) (pc' := 124) rfl ?_
  rintro _ h1 ⟨rfl, v1, js1, ws1, O_n, T1, so1, mj1, nd1, J1⟩
  replace O_s := O_n
  replace J := J1
  have hr_v1 := T1.isRef
  show WP _ _ _ _ _ _ _ _ _ _ []
  refine WP.iload at_124 rfl (pc' := 126) rfl ?_
  refine WP.iconst at_126 (z := (2 : Int32)) rfl (pc' := 127) rfl ?_
  refine WP.icmpLt at_127 (tgt := 137) (by decide) (pc' := 130) rfl (fun c127 => ?_) (fun c127 => ?_)
  · exfalso; omega
  refine WP.aload at_130 rfl rfl (pc' := 132) rfl ?_
  refine WP.aload at_132 rfl rfl (pc' := 134) rfl ?_
  refine WP.callV (a := s) (z := (⟨"com/example/apportion/apportion/JobsByStart", "add", "(Lcom/example/apportion/apportion/GridJob;)V"⟩ : MethodName)) (Cl := "com/example/apportion/apportion/JobsByStart") (y := (⟨"com/example/apportion/apportion/JobsByStart", "add", "(Lcom/example/apportion/apportion/GridJob;)V"⟩ : MethodName)) (By := B13) (as := [(.ref jb)]) (rest := []) at_134 (w97 hw) (w98 hw) (w100 hw) (w99 hw) (w2 hw) (w101 hw) rfl rfl (by decide) O_s.1 (add1 hw [ja, jb, jc] sf nf J s v1 js1 ws1 O_s g_s T1 jb (by simp) nd1 so1 (fun x hx => by simp only [mj1, List.not_mem_nil, or_false] at hx; rcases hx with rfl <;> (unfold lt; omega))) pd_12 rfl rfl rfl (by decide) (Nat.le_of_ble_eq_true rfl) (by decide) (by decide) (pc' := 137) rfl ?_
  rintro _ h2 ⟨rfl, v2, js2, ws2, O_n, T2, so2, mj2, nd2, J1⟩
  replace O_s := O_n
  replace J := J1
  have hr_v2 := T2.isRef
  show WP _ _ _ _ _ _ _ _ _ _ []
  refine WP.iload at_137 rfl (pc' := 139) rfl ?_
  refine WP.iconst at_139 (z := (3 : Int32)) rfl (pc' := 140) rfl ?_
  refine WP.icmpLt at_140 (tgt := 150) (by decide) (pc' := 143) rfl (fun c140 => ?_) (fun c140 => ?_)
  · exfalso; omega
  refine WP.aload at_143 rfl rfl (pc' := 145) rfl ?_
  refine WP.aload at_145 rfl rfl (pc' := 147) rfl ?_
  refine WP.callV (a := s) (z := (⟨"com/example/apportion/apportion/JobsByStart", "add", "(Lcom/example/apportion/apportion/GridJob;)V"⟩ : MethodName)) (Cl := "com/example/apportion/apportion/JobsByStart") (y := (⟨"com/example/apportion/apportion/JobsByStart", "add", "(Lcom/example/apportion/apportion/GridJob;)V"⟩ : MethodName)) (By := B13) (as := [(.ref jc)]) (rest := []) at_147 (w97 hw) (w98 hw) (w100 hw) (w99 hw) (w2 hw) (w101 hw) rfl rfl (by decide) O_s.1 (add2 hw [ja, jb, jc] sf nf J s v2 js2 ws2 O_s g_s T2 jc (by simp) nd2 so2 (fun x hx => by simp only [mj2, mj1, List.not_mem_nil, or_false] at hx; rcases hx with rfl | rfl <;> (unfold lt; omega))) pd_12 rfl rfl rfl (by decide) (Nat.le_of_ble_eq_true rfl) (by decide) (by decide) (pc' := 150) rfl ?_
  rintro _ h3 ⟨rfl, v3, js3, ws3, O_n, T3, so3, mj3, nd3, J1⟩
  replace O_s := O_n
  replace J := J1
  have hr_v3 := T3.isRef
  show WP _ _ _ _ _ _ _ _ _ _ []
  refine WP.iload at_150 rfl (pc' := 152) rfl ?_
  refine WP.iconst at_152 (z := (2 : Int32)) rfl (pc' := 153) rfl ?_
  refine WP.icmpLt at_153 (tgt := 168) (by decide) (pc' := 156) rfl (fun c153 => ?_) (fun c153 => ?_)
  · exfalso; omega
  refine WP.iload at_156 rfl (pc' := 158) rfl ?_
  refine WP.ifEq at_158 (tgt := 168) (by decide) (pc' := 161) rfl (fun c158 => ?_) (fun c158 => ?_)
  ·
    refine WP.iload at_168 rfl (pc' := 170) rfl ?_
    refine WP.iconst at_170 (z := (1 : Int32)) rfl (pc' := 171) rfl ?_
    refine WP.icmpLt at_171 (tgt := 178) (by decide) (pc' := 174) rfl (fun c171 => ?_) (fun c171 => ?_)
    · exfalso; omega
    refine WP.iconst at_174 (z := (1 : Int32)) rfl (pc' := 175) rfl ?_
    refine WP.goto at_175 (pc' := 179) (by decide) ?_
    refine WP.istore at_179 (pc' := 181) rfl (ls' := #[.val (.long s0), .second, .val (.long s1), .second, .val (.long s2), .second, .val (.long n), .second, .val (.int k), .val (.int (3 : Int32)), .val (.int (0 : Int32)), .val (.ref s), .val (.ref r), .val (.ref ja), .val (.ref jb), .val (.ref jc), .val (.int (1 : Int32)), .unset, .unset, .unset]) rfl ?_
    refine WP.iload at_181 rfl (pc' := 183) rfl ?_
    refine WP.iconst at_183 (z := (2 : Int32)) rfl (pc' := 184) rfl ?_
    refine WP.icmpLt at_184 (tgt := 196) (by decide) (pc' := 187) rfl (fun c184 => ?_) (fun c184 => ?_)
    · exfalso; omega
    refine WP.iload at_187 rfl (pc' := 189) rfl ?_
    refine WP.ifNe at_189 (tgt := 196) (by decide) (pc' := 192) rfl (fun c189 => ?_) (fun c189 => ?_)
    · exfalso; omega
    refine WP.iconst at_192 (z := (1 : Int32)) rfl (pc' := 193) rfl ?_
    refine WP.goto at_193 (pc' := 197) (by decide) ?_
    refine WP.istore at_197 (pc' := 199) rfl (ls' := #[.val (.long s0), .second, .val (.long s1), .second, .val (.long s2), .second, .val (.long n), .second, .val (.int k), .val (.int (3 : Int32)), .val (.int (0 : Int32)), .val (.ref s), .val (.ref r), .val (.ref ja), .val (.ref jb), .val (.ref jc), .val (.int (1 : Int32)), .val (.int (1 : Int32)), .unset, .unset]) rfl ?_
    refine WP.iload at_199 rfl (pc' := 201) rfl ?_
    refine WP.iconst at_201 (z := (3 : Int32)) rfl (pc' := 202) rfl ?_
    refine WP.icmpLt at_202 (tgt := 209) (by decide) (pc' := 205) rfl (fun c202 => ?_) (fun c202 => ?_)
    · exfalso; omega
    refine WP.iconst at_205 (z := (1 : Int32)) rfl (pc' := 206) rfl ?_
    refine WP.goto at_206 (pc' := 210) (by decide) ?_
    refine WP.istore at_210 (pc' := 212) rfl (ls' := #[.val (.long s0), .second, .val (.long s1), .second, .val (.long s2), .second, .val (.long n), .second, .val (.int k), .val (.int (3 : Int32)), .val (.int (0 : Int32)), .val (.ref s), .val (.ref r), .val (.ref ja), .val (.ref jb), .val (.ref jc), .val (.int (1 : Int32)), .val (.int (1 : Int32)), .val (.int (1 : Int32)), .unset]) rfl ?_
    refine WP.aconstNull at_212 (pc' := 213) rfl ?_
    refine WP.astore at_213 (pc' := 215) rfl rfl (ls' := #[.val (.long s0), .second, .val (.long s1), .second, .val (.long s2), .second, .val (.long n), .second, .val (.int k), .val (.int (3 : Int32)), .val (.int (0 : Int32)), .val (.ref s), .val (.ref r), .val (.ref ja), .val (.ref jb), .val (.ref jc), .val (.int (1 : Int32)), .val (.int (1 : Int32)), .val (.int (1 : Int32)), .val .null]) rfl ?_
    refine WP.iload at_215 rfl (pc' := 217) rfl ?_
    refine WP.ifEq at_217 (tgt := 224) (by decide) (pc' := 220) rfl (fun c217 => ?_) (fun c217 => ?_)
    · exfalso; omega
    refine WP.aload at_220 rfl rfl (pc' := 222) rfl ?_
    refine WP.astore at_222 (pc' := 224) rfl rfl (ls' := #[.val (.long s0), .second, .val (.long s1), .second, .val (.long s2), .second, .val (.long n), .second, .val (.int k), .val (.int (3 : Int32)), .val (.int (0 : Int32)), .val (.ref s), .val (.ref r), .val (.ref ja), .val (.ref jb), .val (.ref jc), .val (.int (1 : Int32)), .val (.int (1 : Int32)), .val (.int (1 : Int32)), .val (.ref ja)]) rfl ?_
    refine WP.iload at_224 rfl (pc' := 226) rfl ?_
    refine WP.ifEq at_226 (tgt := 248) (by decide) (pc' := 229) rfl (fun c226 => ?_) (fun c226 => ?_)
    · exfalso; omega
    refine WP.aload at_229 rfl rfl (pc' := 231) rfl ?_
    refine WP.ifnullN at_231 (pc' := 234) rfl ?_
    refine WP.aload at_234 rfl rfl (pc' := 236) rfl ?_
    refine WP.aload at_236 rfl rfl (pc' := 238) rfl ?_
    refine WP.callS (y := (⟨"com/example/apportion/apportion/JobsByStartFirstPinLaw", "before", "(Lcom/example/apportion/apportion/GridJob;Lcom/example/apportion/apportion/GridJob;)Z"⟩ : MethodName)) (By := B21) (as := [(.ref jb), (.ref ja)]) (rest := []) at_238 (w156 hw) (w157 hw) (w158 hw) (w159 hw) (by decide) (bef_met hw jb ja _ _ _ _ (J _ (by simp)) (J _ (by simp))) pd_8 rfl rfl rfl (by decide) (Nat.le_of_ble_eq_true rfl) (by decide) (by decide) (pc' := 241) rfl ?_
    rintro _ _ ⟨rfl, r238, rfl, hr238⟩
    show WP _ _ _ _ _ _ _ _ _ _ [(.int r238)]
    refine WP.ifEq at_241 (tgt := 248) (by decide) (pc' := 244) rfl (fun c241 => ?_) (fun c241 => ?_)
    ·
      refine WP.iload at_248 rfl (pc' := 250) rfl ?_
      refine WP.ifEq at_250 (tgt := 272) (by decide) (pc' := 253) rfl (fun c250 => ?_) (fun c250 => ?_)
      · exfalso; omega
      refine WP.aload at_253 rfl rfl (pc' := 255) rfl ?_
      refine WP.ifnullN at_255 (pc' := 258) rfl ?_
      refine WP.aload at_258 rfl rfl (pc' := 260) rfl ?_
      refine WP.aload at_260 rfl rfl (pc' := 262) rfl ?_
      refine WP.callS (y := (⟨"com/example/apportion/apportion/JobsByStartFirstPinLaw", "before", "(Lcom/example/apportion/apportion/GridJob;Lcom/example/apportion/apportion/GridJob;)Z"⟩ : MethodName)) (By := B21) (as := [(.ref jc), (.ref ja)]) (rest := []) at_262 (w156 hw) (w157 hw) (w158 hw) (w159 hw) (by decide) (bef_met hw jc ja _ _ _ _ (J _ (by simp)) (J _ (by simp))) pd_8 rfl rfl rfl (by decide) (Nat.le_of_ble_eq_true rfl) (by decide) (by decide) (pc' := 265) rfl ?_
      rintro _ _ ⟨rfl, r262, rfl, hr262⟩
      show WP _ _ _ _ _ _ _ _ _ _ [(.int r262)]
      refine WP.ifEq at_265 (tgt := 272) (by decide) (pc' := 268) rfl (fun c265 => ?_) (fun c265 => ?_)
      ·
        refine WP.aload at_272 rfl rfl (pc' := 274) rfl ?_
        refine WP.callV (a := s) (z := (⟨"com/example/apportion/apportion/JobsByStart", "first", "()Lcom/example/apportion/apportion/GridJob;"⟩ : MethodName)) (Cl := "com/example/apportion/apportion/JobsByStart") (y := (⟨"com/example/apportion/apportion/JobsByStart", "first", "()Lcom/example/apportion/apportion/GridJob;"⟩ : MethodName)) (By := B22) (as := []) (rest := []) at_274 (w160 hw) (w161 hw) (w163 hw) (w162 hw) (w2 hw) (w164 hw) rfl rfl (by decide) O_s.1 (fst_met (JS := [ja, jb, jc]) hw s v3 3 js3 ws3 O_s T3) pd_13 rfl rfl rfl (by decide) (Nat.le_of_ble_eq_true rfl) (by decide) (by decide) (pc' := 277) rfl ?_
        rintro _ _ ⟨rfl, vf, rfl, hvf⟩
        have hr_vf : vf.isRef = true := by rw [hvf]; exact hd_ref _
        show WP _ _ _ _ _ _ _ _ _ _ [vf]
        refine WP.aload at_277 rfl rfl (pc' := 279) rfl ?_
        refine WP.acmpNe at_279 (tgt := 286) (by decide) (pc' := 282) rfl hr_vf rfl (fun c279 => ?_) (fun c279 => ?_)
        · exact absurd (hvf.trans (hd_min so3 (by simp [mj3, mj2, mj1]) (fun y hy hne => by simp only [mj3, mj2, mj1, List.not_mem_nil, or_false] at hy; rcases hy with rfl | rfl | rfl <;> first | exact absurd rfl hne | (unfold lt; omega)))) c279
        refine WP.iconst at_282 (z := (1 : Int32)) rfl (pc' := 283) rfl ?_
        refine WP.goto at_283 (pc' := 287) (by decide) ?_
        exact WP.retN at_287 (t := .boolean) rfl (by simp) (by decide) (by decide) own_q1
      refine WP.aload at_268 rfl rfl (pc' := 270) rfl ?_
      refine WP.astore at_270 (pc' := 272) rfl rfl (ls' := #[.val (.long s0), .second, .val (.long s1), .second, .val (.long s2), .second, .val (.long n), .second, .val (.int k), .val (.int (3 : Int32)), .val (.int (0 : Int32)), .val (.ref s), .val (.ref r), .val (.ref ja), .val (.ref jb), .val (.ref jc), .val (.int (1 : Int32)), .val (.int (1 : Int32)), .val (.int (1 : Int32)), .val (.ref jc)]) rfl ?_
      refine WP.aload at_272 rfl rfl (pc' := 274) rfl ?_
      refine WP.callV (a := s) (z := (⟨"com/example/apportion/apportion/JobsByStart", "first", "()Lcom/example/apportion/apportion/GridJob;"⟩ : MethodName)) (Cl := "com/example/apportion/apportion/JobsByStart") (y := (⟨"com/example/apportion/apportion/JobsByStart", "first", "()Lcom/example/apportion/apportion/GridJob;"⟩ : MethodName)) (By := B22) (as := []) (rest := []) at_274 (w160 hw) (w161 hw) (w163 hw) (w162 hw) (w2 hw) (w164 hw) rfl rfl (by decide) O_s.1 (fst_met (JS := [ja, jb, jc]) hw s v3 3 js3 ws3 O_s T3) pd_13 rfl rfl rfl (by decide) (Nat.le_of_ble_eq_true rfl) (by decide) (by decide) (pc' := 277) rfl ?_
      rintro _ _ ⟨rfl, vf, rfl, hvf⟩
      have hr_vf : vf.isRef = true := by rw [hvf]; exact hd_ref _
      show WP _ _ _ _ _ _ _ _ _ _ [vf]
      refine WP.aload at_277 rfl rfl (pc' := 279) rfl ?_
      refine WP.acmpNe at_279 (tgt := 286) (by decide) (pc' := 282) rfl hr_vf rfl (fun c279 => ?_) (fun c279 => ?_)
      · exact absurd (hvf.trans (hd_min so3 (by simp [mj3, mj2, mj1]) (fun y hy hne => by simp only [mj3, mj2, mj1, List.not_mem_nil, or_false] at hy; rcases hy with rfl | rfl | rfl <;> first | exact absurd rfl hne | (unfold lt; omega)))) c279
      refine WP.iconst at_282 (z := (1 : Int32)) rfl (pc' := 283) rfl ?_
      refine WP.goto at_283 (pc' := 287) (by decide) ?_
      exact WP.retN at_287 (t := .boolean) rfl (by simp) (by decide) (by decide) own_q1
    refine WP.aload at_244 rfl rfl (pc' := 246) rfl ?_
    refine WP.astore at_246 (pc' := 248) rfl rfl (ls' := #[.val (.long s0), .second, .val (.long s1), .second, .val (.long s2), .second, .val (.long n), .second, .val (.int k), .val (.int (3 : Int32)), .val (.int (0 : Int32)), .val (.ref s), .val (.ref r), .val (.ref ja), .val (.ref jb), .val (.ref jc), .val (.int (1 : Int32)), .val (.int (1 : Int32)), .val (.int (1 : Int32)), .val (.ref jb)]) rfl ?_
    refine WP.iload at_248 rfl (pc' := 250) rfl ?_
    refine WP.ifEq at_250 (tgt := 272) (by decide) (pc' := 253) rfl (fun c250 => ?_) (fun c250 => ?_)
    · exfalso; omega
    refine WP.aload at_253 rfl rfl (pc' := 255) rfl ?_
    refine WP.ifnullN at_255 (pc' := 258) rfl ?_
    refine WP.aload at_258 rfl rfl (pc' := 260) rfl ?_
    refine WP.aload at_260 rfl rfl (pc' := 262) rfl ?_
    refine WP.callS (y := (⟨"com/example/apportion/apportion/JobsByStartFirstPinLaw", "before", "(Lcom/example/apportion/apportion/GridJob;Lcom/example/apportion/apportion/GridJob;)Z"⟩ : MethodName)) (By := B21) (as := [(.ref jc), (.ref jb)]) (rest := []) at_262 (w156 hw) (w157 hw) (w158 hw) (w159 hw) (by decide) (bef_met hw jc jb _ _ _ _ (J _ (by simp)) (J _ (by simp))) pd_8 rfl rfl rfl (by decide) (Nat.le_of_ble_eq_true rfl) (by decide) (by decide) (pc' := 265) rfl ?_
    rintro _ _ ⟨rfl, r262, rfl, hr262⟩
    show WP _ _ _ _ _ _ _ _ _ _ [(.int r262)]
    refine WP.ifEq at_265 (tgt := 272) (by decide) (pc' := 268) rfl (fun c265 => ?_) (fun c265 => ?_)
    ·
      refine WP.aload at_272 rfl rfl (pc' := 274) rfl ?_
      refine WP.callV (a := s) (z := (⟨"com/example/apportion/apportion/JobsByStart", "first", "()Lcom/example/apportion/apportion/GridJob;"⟩ : MethodName)) (Cl := "com/example/apportion/apportion/JobsByStart") (y := (⟨"com/example/apportion/apportion/JobsByStart", "first", "()Lcom/example/apportion/apportion/GridJob;"⟩ : MethodName)) (By := B22) (as := []) (rest := []) at_274 (w160 hw) (w161 hw) (w163 hw) (w162 hw) (w2 hw) (w164 hw) rfl rfl (by decide) O_s.1 (fst_met (JS := [ja, jb, jc]) hw s v3 3 js3 ws3 O_s T3) pd_13 rfl rfl rfl (by decide) (Nat.le_of_ble_eq_true rfl) (by decide) (by decide) (pc' := 277) rfl ?_
      rintro _ _ ⟨rfl, vf, rfl, hvf⟩
      have hr_vf : vf.isRef = true := by rw [hvf]; exact hd_ref _
      show WP _ _ _ _ _ _ _ _ _ _ [vf]
      refine WP.aload at_277 rfl rfl (pc' := 279) rfl ?_
      refine WP.acmpNe at_279 (tgt := 286) (by decide) (pc' := 282) rfl hr_vf rfl (fun c279 => ?_) (fun c279 => ?_)
      · exact absurd (hvf.trans (hd_min so3 (by simp [mj3, mj2, mj1]) (fun y hy hne => by simp only [mj3, mj2, mj1, List.not_mem_nil, or_false] at hy; rcases hy with rfl | rfl | rfl <;> first | exact absurd rfl hne | (unfold lt; omega)))) c279
      refine WP.iconst at_282 (z := (1 : Int32)) rfl (pc' := 283) rfl ?_
      refine WP.goto at_283 (pc' := 287) (by decide) ?_
      exact WP.retN at_287 (t := .boolean) rfl (by simp) (by decide) (by decide) own_q1
    refine WP.aload at_268 rfl rfl (pc' := 270) rfl ?_
    refine WP.astore at_270 (pc' := 272) rfl rfl (ls' := #[.val (.long s0), .second, .val (.long s1), .second, .val (.long s2), .second, .val (.long n), .second, .val (.int k), .val (.int (3 : Int32)), .val (.int (0 : Int32)), .val (.ref s), .val (.ref r), .val (.ref ja), .val (.ref jb), .val (.ref jc), .val (.int (1 : Int32)), .val (.int (1 : Int32)), .val (.int (1 : Int32)), .val (.ref jc)]) rfl ?_
    refine WP.aload at_272 rfl rfl (pc' := 274) rfl ?_
    refine WP.callV (a := s) (z := (⟨"com/example/apportion/apportion/JobsByStart", "first", "()Lcom/example/apportion/apportion/GridJob;"⟩ : MethodName)) (Cl := "com/example/apportion/apportion/JobsByStart") (y := (⟨"com/example/apportion/apportion/JobsByStart", "first", "()Lcom/example/apportion/apportion/GridJob;"⟩ : MethodName)) (By := B22) (as := []) (rest := []) at_274 (w160 hw) (w161 hw) (w163 hw) (w162 hw) (w2 hw) (w164 hw) rfl rfl (by decide) O_s.1 (fst_met (JS := [ja, jb, jc]) hw s v3 3 js3 ws3 O_s T3) pd_13 rfl rfl rfl (by decide) (Nat.le_of_ble_eq_true rfl) (by decide) (by decide) (pc' := 277) rfl ?_
    rintro _ _ ⟨rfl, vf, rfl, hvf⟩
    have hr_vf : vf.isRef = true := by rw [hvf]; exact hd_ref _
    show WP _ _ _ _ _ _ _ _ _ _ [vf]
    refine WP.aload at_277 rfl rfl (pc' := 279) rfl ?_
    refine WP.acmpNe at_279 (tgt := 286) (by decide) (pc' := 282) rfl hr_vf rfl (fun c279 => ?_) (fun c279 => ?_)
    · exact absurd (hvf.trans (hd_min so3 (by simp [mj3, mj2, mj1]) (fun y hy hne => by simp only [mj3, mj2, mj1, List.not_mem_nil, or_false] at hy; rcases hy with rfl | rfl | rfl <;> first | exact absurd rfl hne | (unfold lt; omega)))) c279
    refine WP.iconst at_282 (z := (1 : Int32)) rfl (pc' := 283) rfl ?_
    refine WP.goto at_283 (pc' := 287) (by decide) ?_
    exact WP.retN at_287 (t := .boolean) rfl (by simp) (by decide) (by decide) own_q1
  exfalso; omega
theorem law_111_3_1 {l : Launch} {Z : State} {a0 : Array Value} (hw : HW Z a0) {n0 : Nat} {h : Heap} (s0 s1 s2 n : Int64) (k : Int32) (s r ja jb jc : Addr) (n_ab : ja ≠ jb) (n_ac : ja ≠ jc) (n_bc : jb ≠ jc) (sf nf : Addr → Int64) (J : JOK Z h [ja, jb, jc] sf nf) (O_s : Ob Z h s "com/example/apportion/apportion/JobsByStart" L_TS [.null]) (g_s : n0 ≤ s) (hN : (nf ja).toInt ≠ (nf jb).toInt ∧ (nf ja).toInt ≠ (nf jc).toInt ∧ (nf jb).toInt ≠ (nf jc).toInt) : WP l B0 Z n0 (fun v h' => v = some (.int 1)) h 5 44 111 #[.val (.long s0), .second, .val (.long s1), .second, .val (.long s2), .second, .val (.long n), .second, .val (.int k), .val (.int (3 : Int32)), .val (.int (1 : Int32)), .val (.ref s), .val (.ref r), .val (.ref ja), .val (.ref jb), .val (.ref jc), .unset, .unset, .unset, .unset] [] := by
  have k32_0 : (0 : Int32).toInt = 0 := by decide
  have k32_1 : (1 : Int32).toInt = 1 := by decide
  have k32_2 : (2 : Int32).toInt = 2 := by decide
  have k32_3 : (3 : Int32).toInt = 3 := by decide
  refine WP.iload at_111 rfl (pc' := 113) rfl ?_
  refine WP.iconst at_113 (z := (1 : Int32)) rfl (pc' := 114) rfl ?_
  refine WP.icmpLt at_114 (tgt := 124) (by decide) (pc' := 117) rfl (fun c114 => ?_) (fun c114 => ?_)
  · exfalso; omega
  refine WP.aload at_117 rfl rfl (pc' := 119) rfl ?_
  refine WP.aload at_119 rfl rfl (pc' := 121) rfl ?_
  refine WP.callV (a := s) (z := (⟨"com/example/apportion/apportion/JobsByStart", "add", "(Lcom/example/apportion/apportion/GridJob;)V"⟩ : MethodName)) (Cl := "com/example/apportion/apportion/JobsByStart") (y := (⟨"com/example/apportion/apportion/JobsByStart", "add", "(Lcom/example/apportion/apportion/GridJob;)V"⟩ : MethodName)) (By := B13) (as := [(.ref ja)]) (rest := []) at_121 (w97 hw) (w98 hw) (w100 hw) (w99 hw) (w2 hw) (w101 hw) rfl rfl (by decide) O_s.1 (add0 hw [ja, jb, jc] sf nf J s .null [] [] O_s g_s TR.nil ja (by simp) List.nodup_nil List.Pairwise.nil (fun x hx => by cases hx)) pd_12 rfl rfl rfl (by decide) (Nat.le_of_ble_eq_true rfl) (by decide) (by decide) (pc' := 124) rfl ?_
  rintro _ h1 ⟨rfl, v1, js1, ws1, O_n, T1, so1, mj1, nd1, J1⟩
  replace O_s := O_n
  replace J := J1
  have hr_v1 := T1.isRef
  show WP _ _ _ _ _ _ _ _ _ _ []
  refine WP.iload at_124 rfl (pc' := 126) rfl ?_
  refine WP.iconst at_126 (z := (2 : Int32)) rfl (pc' := 127) rfl ?_
  refine WP.icmpLt at_127 (tgt := 137) (by decide) (pc' := 130) rfl (fun c127 => ?_) (fun c127 => ?_)
  · exfalso; omega
  refine WP.aload at_130 rfl rfl (pc' := 132) rfl ?_
  refine WP.aload at_132 rfl rfl (pc' := 134) rfl ?_
  refine WP.callV (a := s) (z := (⟨"com/example/apportion/apportion/JobsByStart", "add", "(Lcom/example/apportion/apportion/GridJob;)V"⟩ : MethodName)) (Cl := "com/example/apportion/apportion/JobsByStart") (y := (⟨"com/example/apportion/apportion/JobsByStart", "add", "(Lcom/example/apportion/apportion/GridJob;)V"⟩ : MethodName)) (By := B13) (as := [(.ref jb)]) (rest := []) at_134 (w97 hw) (w98 hw) (w100 hw) (w99 hw) (w2 hw) (w101 hw) rfl rfl (by decide) O_s.1 (add1 hw [ja, jb, jc] sf nf J s v1 js1 ws1 O_s g_s T1 jb (by simp) nd1 so1 (fun x hx => by simp only [mj1, List.not_mem_nil, or_false] at hx; rcases hx with rfl <;> (unfold lt; omega))) pd_12 rfl rfl rfl (by decide) (Nat.le_of_ble_eq_true rfl) (by decide) (by decide) (pc' := 137) rfl ?_
  rintro _ h2 ⟨rfl, v2, js2, ws2, O_n, T2, so2, mj2, nd2, J1⟩
  replace O_s := O_n
  replace J := J1
  have hr_v2 := T2.isRef
  show WP _ _ _ _ _ _ _ _ _ _ []
  refine WP.iload at_137 rfl (pc' := 139) rfl ?_
  refine WP.iconst at_139 (z := (3 : Int32)) rfl (pc' := 140) rfl ?_
  refine WP.icmpLt at_140 (tgt := 150) (by decide) (pc' := 143) rfl (fun c140 => ?_) (fun c140 => ?_)
  · exfalso; omega
  refine WP.aload at_143 rfl rfl (pc' := 145) rfl ?_
  refine WP.aload at_145 rfl rfl (pc' := 147) rfl ?_
  refine WP.callV (a := s) (z := (⟨"com/example/apportion/apportion/JobsByStart", "add", "(Lcom/example/apportion/apportion/GridJob;)V"⟩ : MethodName)) (Cl := "com/example/apportion/apportion/JobsByStart") (y := (⟨"com/example/apportion/apportion/JobsByStart", "add", "(Lcom/example/apportion/apportion/GridJob;)V"⟩ : MethodName)) (By := B13) (as := [(.ref jc)]) (rest := []) at_147 (w97 hw) (w98 hw) (w100 hw) (w99 hw) (w2 hw) (w101 hw) rfl rfl (by decide) O_s.1 (add2 hw [ja, jb, jc] sf nf J s v2 js2 ws2 O_s g_s T2 jc (by simp) nd2 so2 (fun x hx => by simp only [mj2, mj1, List.not_mem_nil, or_false] at hx; rcases hx with rfl | rfl <;> (unfold lt; omega))) pd_12 rfl rfl rfl (by decide) (Nat.le_of_ble_eq_true rfl) (by decide) (by decide) (pc' := 150) rfl ?_
  rintro _ h3 ⟨rfl, v3, js3, ws3, O_n, T3, so3, mj3, nd3, J1⟩
  replace O_s := O_n
  replace J := J1
  have hr_v3 := T3.isRef
  show WP _ _ _ _ _ _ _ _ _ _ []
  refine WP.iload at_150 rfl (pc' := 152) rfl ?_
  refine WP.iconst at_152 (z := (2 : Int32)) rfl (pc' := 153) rfl ?_
  refine WP.icmpLt at_153 (tgt := 168) (by decide) (pc' := 156) rfl (fun c153 => ?_) (fun c153 => ?_)
  · exfalso; omega
  refine WP.iload at_156 rfl (pc' := 158) rfl ?_
  refine WP.ifEq at_158 (tgt := 168) (by decide) (pc' := 161) rfl (fun c158 => ?_) (fun c158 => ?_)
  · exfalso; omega
  refine WP.aload at_161 rfl rfl (pc' := 163) rfl ?_
  refine WP.aload at_163 rfl rfl (pc' := 165) rfl ?_
  refine WP.callV (a := s) (z := (⟨"com/example/apportion/apportion/JobsByStart", "remove", "(Lcom/example/apportion/apportion/GridJob;)V"⟩ : MethodName)) (Cl := "com/example/apportion/apportion/JobsByStart") (y := (⟨"com/example/apportion/apportion/JobsByStart", "remove", "(Lcom/example/apportion/apportion/GridJob;)V"⟩ : MethodName)) (By := B23) (as := [(.ref jb)]) (rest := []) at_165 (w166 hw) (w167 hw) (w169 hw) (w168 hw) (w2 hw) (w170 hw) rfl rfl (by decide) O_s.1 (rem_met hw [ja, jb, jc] sf nf J s v3 js3 ws3 O_s g_s (T3.le (by decide)) jb (by simp) nd3 so3 (by simp [mj3, mj2, mj1])) pd_12 rfl rfl rfl (by decide) (Nat.le_of_ble_eq_true rfl) (by decide) (by decide) (pc' := 168) rfl ?_
  rintro _ h4 ⟨rfl, v9, js9, ws9, O_n, T9, so9, mj9, J1⟩
  replace O_s := O_n
  replace J := J1
  have hr_v9 := T9.isRef
  show WP _ _ _ _ _ _ _ _ _ _ []
  refine WP.iload at_168 rfl (pc' := 170) rfl ?_
  refine WP.iconst at_170 (z := (1 : Int32)) rfl (pc' := 171) rfl ?_
  refine WP.icmpLt at_171 (tgt := 178) (by decide) (pc' := 174) rfl (fun c171 => ?_) (fun c171 => ?_)
  · exfalso; omega
  refine WP.iconst at_174 (z := (1 : Int32)) rfl (pc' := 175) rfl ?_
  refine WP.goto at_175 (pc' := 179) (by decide) ?_
  refine WP.istore at_179 (pc' := 181) rfl (ls' := #[.val (.long s0), .second, .val (.long s1), .second, .val (.long s2), .second, .val (.long n), .second, .val (.int k), .val (.int (3 : Int32)), .val (.int (1 : Int32)), .val (.ref s), .val (.ref r), .val (.ref ja), .val (.ref jb), .val (.ref jc), .val (.int (1 : Int32)), .unset, .unset, .unset]) rfl ?_
  refine WP.iload at_181 rfl (pc' := 183) rfl ?_
  refine WP.iconst at_183 (z := (2 : Int32)) rfl (pc' := 184) rfl ?_
  refine WP.icmpLt at_184 (tgt := 196) (by decide) (pc' := 187) rfl (fun c184 => ?_) (fun c184 => ?_)
  · exfalso; omega
  refine WP.iload at_187 rfl (pc' := 189) rfl ?_
  refine WP.ifNe at_189 (tgt := 196) (by decide) (pc' := 192) rfl (fun c189 => ?_) (fun c189 => ?_)
  ·
    refine WP.iconst at_196 (z := (0 : Int32)) rfl (pc' := 197) rfl ?_
    refine WP.istore at_197 (pc' := 199) rfl (ls' := #[.val (.long s0), .second, .val (.long s1), .second, .val (.long s2), .second, .val (.long n), .second, .val (.int k), .val (.int (3 : Int32)), .val (.int (1 : Int32)), .val (.ref s), .val (.ref r), .val (.ref ja), .val (.ref jb), .val (.ref jc), .val (.int (1 : Int32)), .val (.int (0 : Int32)), .unset, .unset]) rfl ?_
    refine WP.iload at_199 rfl (pc' := 201) rfl ?_
    refine WP.iconst at_201 (z := (3 : Int32)) rfl (pc' := 202) rfl ?_
    refine WP.icmpLt at_202 (tgt := 209) (by decide) (pc' := 205) rfl (fun c202 => ?_) (fun c202 => ?_)
    · exfalso; omega
    refine WP.iconst at_205 (z := (1 : Int32)) rfl (pc' := 206) rfl ?_
    refine WP.goto at_206 (pc' := 210) (by decide) ?_
    refine WP.istore at_210 (pc' := 212) rfl (ls' := #[.val (.long s0), .second, .val (.long s1), .second, .val (.long s2), .second, .val (.long n), .second, .val (.int k), .val (.int (3 : Int32)), .val (.int (1 : Int32)), .val (.ref s), .val (.ref r), .val (.ref ja), .val (.ref jb), .val (.ref jc), .val (.int (1 : Int32)), .val (.int (0 : Int32)), .val (.int (1 : Int32)), .unset]) rfl ?_
    refine WP.aconstNull at_212 (pc' := 213) rfl ?_
    refine WP.astore at_213 (pc' := 215) rfl rfl (ls' := #[.val (.long s0), .second, .val (.long s1), .second, .val (.long s2), .second, .val (.long n), .second, .val (.int k), .val (.int (3 : Int32)), .val (.int (1 : Int32)), .val (.ref s), .val (.ref r), .val (.ref ja), .val (.ref jb), .val (.ref jc), .val (.int (1 : Int32)), .val (.int (0 : Int32)), .val (.int (1 : Int32)), .val .null]) rfl ?_
    refine WP.iload at_215 rfl (pc' := 217) rfl ?_
    refine WP.ifEq at_217 (tgt := 224) (by decide) (pc' := 220) rfl (fun c217 => ?_) (fun c217 => ?_)
    · exfalso; omega
    refine WP.aload at_220 rfl rfl (pc' := 222) rfl ?_
    refine WP.astore at_222 (pc' := 224) rfl rfl (ls' := #[.val (.long s0), .second, .val (.long s1), .second, .val (.long s2), .second, .val (.long n), .second, .val (.int k), .val (.int (3 : Int32)), .val (.int (1 : Int32)), .val (.ref s), .val (.ref r), .val (.ref ja), .val (.ref jb), .val (.ref jc), .val (.int (1 : Int32)), .val (.int (0 : Int32)), .val (.int (1 : Int32)), .val (.ref ja)]) rfl ?_
    refine WP.iload at_224 rfl (pc' := 226) rfl ?_
    refine WP.ifEq at_226 (tgt := 248) (by decide) (pc' := 229) rfl (fun c226 => ?_) (fun c226 => ?_)
    ·
      refine WP.iload at_248 rfl (pc' := 250) rfl ?_
      refine WP.ifEq at_250 (tgt := 272) (by decide) (pc' := 253) rfl (fun c250 => ?_) (fun c250 => ?_)
      · exfalso; omega
      refine WP.aload at_253 rfl rfl (pc' := 255) rfl ?_
      refine WP.ifnullN at_255 (pc' := 258) rfl ?_
      refine WP.aload at_258 rfl rfl (pc' := 260) rfl ?_
      refine WP.aload at_260 rfl rfl (pc' := 262) rfl ?_
      refine WP.callS (y := (⟨"com/example/apportion/apportion/JobsByStartFirstPinLaw", "before", "(Lcom/example/apportion/apportion/GridJob;Lcom/example/apportion/apportion/GridJob;)Z"⟩ : MethodName)) (By := B21) (as := [(.ref jc), (.ref ja)]) (rest := []) at_262 (w156 hw) (w157 hw) (w158 hw) (w159 hw) (by decide) (bef_met hw jc ja _ _ _ _ (J _ (by simp)) (J _ (by simp))) pd_8 rfl rfl rfl (by decide) (Nat.le_of_ble_eq_true rfl) (by decide) (by decide) (pc' := 265) rfl ?_
      rintro _ _ ⟨rfl, r262, rfl, hr262⟩
      show WP _ _ _ _ _ _ _ _ _ _ [(.int r262)]
      refine WP.ifEq at_265 (tgt := 272) (by decide) (pc' := 268) rfl (fun c265 => ?_) (fun c265 => ?_)
      ·
        refine WP.aload at_272 rfl rfl (pc' := 274) rfl ?_
        refine WP.callV (a := s) (z := (⟨"com/example/apportion/apportion/JobsByStart", "first", "()Lcom/example/apportion/apportion/GridJob;"⟩ : MethodName)) (Cl := "com/example/apportion/apportion/JobsByStart") (y := (⟨"com/example/apportion/apportion/JobsByStart", "first", "()Lcom/example/apportion/apportion/GridJob;"⟩ : MethodName)) (By := B22) (as := []) (rest := []) at_274 (w160 hw) (w161 hw) (w163 hw) (w162 hw) (w2 hw) (w164 hw) rfl rfl (by decide) O_s.1 (fst_met (JS := [ja, jb, jc]) hw s v9 4 js9 ws9 O_s T9) pd_13 rfl rfl rfl (by decide) (Nat.le_of_ble_eq_true rfl) (by decide) (by decide) (pc' := 277) rfl ?_
        rintro _ _ ⟨rfl, vf, rfl, hvf⟩
        have hr_vf : vf.isRef = true := by rw [hvf]; exact hd_ref _
        show WP _ _ _ _ _ _ _ _ _ _ [vf]
        refine WP.aload at_277 rfl rfl (pc' := 279) rfl ?_
        refine WP.acmpNe at_279 (tgt := 286) (by decide) (pc' := 282) rfl hr_vf rfl (fun c279 => ?_) (fun c279 => ?_)
        · exact absurd (hvf.trans (hd_min so9 ((mj9 _).mpr ⟨by simp [mj3, mj2, mj1], n_ab⟩) (fun y hy hne => by obtain ⟨hy, hz⟩ := (mj9 y).mp hy; simp only [mj3, mj2, mj1, List.not_mem_nil, or_false] at hy; rcases hy with rfl | rfl | rfl <;> first | exact absurd rfl hne | exact absurd rfl hz | (unfold lt; omega)))) c279
        refine WP.iconst at_282 (z := (1 : Int32)) rfl (pc' := 283) rfl ?_
        refine WP.goto at_283 (pc' := 287) (by decide) ?_
        exact WP.retN at_287 (t := .boolean) rfl (by simp) (by decide) (by decide) own_q1
      refine WP.aload at_268 rfl rfl (pc' := 270) rfl ?_
      refine WP.astore at_270 (pc' := 272) rfl rfl (ls' := #[.val (.long s0), .second, .val (.long s1), .second, .val (.long s2), .second, .val (.long n), .second, .val (.int k), .val (.int (3 : Int32)), .val (.int (1 : Int32)), .val (.ref s), .val (.ref r), .val (.ref ja), .val (.ref jb), .val (.ref jc), .val (.int (1 : Int32)), .val (.int (0 : Int32)), .val (.int (1 : Int32)), .val (.ref jc)]) rfl ?_
      refine WP.aload at_272 rfl rfl (pc' := 274) rfl ?_
      refine WP.callV (a := s) (z := (⟨"com/example/apportion/apportion/JobsByStart", "first", "()Lcom/example/apportion/apportion/GridJob;"⟩ : MethodName)) (Cl := "com/example/apportion/apportion/JobsByStart") (y := (⟨"com/example/apportion/apportion/JobsByStart", "first", "()Lcom/example/apportion/apportion/GridJob;"⟩ : MethodName)) (By := B22) (as := []) (rest := []) at_274 (w160 hw) (w161 hw) (w163 hw) (w162 hw) (w2 hw) (w164 hw) rfl rfl (by decide) O_s.1 (fst_met (JS := [ja, jb, jc]) hw s v9 4 js9 ws9 O_s T9) pd_13 rfl rfl rfl (by decide) (Nat.le_of_ble_eq_true rfl) (by decide) (by decide) (pc' := 277) rfl ?_
      rintro _ _ ⟨rfl, vf, rfl, hvf⟩
      have hr_vf : vf.isRef = true := by rw [hvf]; exact hd_ref _
      show WP _ _ _ _ _ _ _ _ _ _ [vf]
      refine WP.aload at_277 rfl rfl (pc' := 279) rfl ?_
      refine WP.acmpNe at_279 (tgt := 286) (by decide) (pc' := 282) rfl hr_vf rfl (fun c279 => ?_) (fun c279 => ?_)
      · exact absurd (hvf.trans (hd_min so9 ((mj9 _).mpr ⟨by simp [mj3, mj2, mj1], Ne.symm n_bc⟩) (fun y hy hne => by obtain ⟨hy, hz⟩ := (mj9 y).mp hy; simp only [mj3, mj2, mj1, List.not_mem_nil, or_false] at hy; rcases hy with rfl | rfl | rfl <;> first | exact absurd rfl hne | exact absurd rfl hz | (unfold lt; omega)))) c279
      refine WP.iconst at_282 (z := (1 : Int32)) rfl (pc' := 283) rfl ?_
      refine WP.goto at_283 (pc' := 287) (by decide) ?_
      exact WP.retN at_287 (t := .boolean) rfl (by simp) (by decide) (by decide) own_q1
    exfalso; omega
  exfalso; omega
theorem law_met {l : Launch} {Z : State} {a0 : Array Value} (hw : HW Z a0) {n0 : Nat} {h : Heap} (s0 s1 s2 n : Int64) (k : Int32) : OMet l x B0 Z n0 #[(.long s0), (.long s1), (.long s2), (.long n), (.int k)] h (fun v h' => v = some (.int 1)) := by
  refine OMet.of_wp (ls0 := #[.val (.long s0), .second, .val (.long s1), .second, .val (.long s2), .second, .val (.long n), .second, .val (.int k), .unset, .unset, .unset, .unset, .unset, .unset, .unset, .unset, .unset, .unset, .unset]) pl0 rfl rfl (fun m => own_entry 11 rfl rfl) ?_
  have k32_m1 : (-1 : Int32).toInt = -1 := by decide
  have k32_0 : (0 : Int32).toInt = 0 := by decide
  have k32_1 : (1 : Int32).toInt = 1 := by decide
  have k32_2 : (2 : Int32).toInt = 2 := by decide
  have k32_3 : (3 : Int32).toInt = 3 := by decide
  have k32_4 : (4 : Int32).toInt = 4 := by decide
  have k64_0 : (0 : Int64).toInt = 0 := by decide
  have k64_1 : (1 : Int64).toInt = 1 := by decide
  have k64_2 : (2 : Int64).toInt = 2 := by decide
  refine WP.iload at_0 rfl (pc' := 2) rfl ?_
  refine WP.iconst at_2 (z := (3 : Int32)) rfl (pc' := 3) rfl ?_
  refine WP.iand at_3 (pc' := 4) rfl ?_
  obtain ⟨cn, e_cn⟩ : ∃ z, z = (k &&& (3 : Int32)) := ⟨_, rfl⟩
  rw [← e_cn]
  refine WP.istore at_4 (pc' := 6) rfl (ls' := #[.val (.long s0), .second, .val (.long s1), .second, .val (.long s2), .second, .val (.long n), .second, .val (.int k), .val (.int cn), .unset, .unset, .unset, .unset, .unset, .unset, .unset, .unset, .unset, .unset]) rfl ?_
  refine WP.iload at_6 rfl (pc' := 8) rfl ?_
  refine WP.iconst at_8 (z := (4 : Int32)) rfl (pc' := 9) rfl ?_
  refine WP.iand at_9 (pc' := 10) rfl ?_
  refine WP.ifEq at_10 (tgt := 17) (by decide) (pc' := 13) rfl (fun c10 => ?_) (fun c10 => ?_)
  ·
    refine WP.iconst at_17 (z := (0 : Int32)) rfl (pc' := 18) rfl ?_
    refine WP.istore at_18 (pc' := 20) rfl (ls' := #[.val (.long s0), .second, .val (.long s1), .second, .val (.long s2), .second, .val (.long n), .second, .val (.int k), .val (.int cn), .val (.int (0 : Int32)), .unset, .unset, .unset, .unset, .unset, .unset, .unset, .unset, .unset]) rfl ?_
    refine WP.newobj (lay := L_TS) (vs := [.null]) at_20 (w0 hw) (w1 hw) (w2 hw) (lay_TS hw) rfl (by decide) (by decide) (pc' := 23) rfl ?_
    intro s h1 eb_s g_s K2 O_s
    refine WP.dup at_23 rfl (pc' := 24) rfl ?_
    refine WP.callI (a := s) (y := (⟨"com/example/apportion/apportion/JobsByStart", "<init>", "()V"⟩ : MethodName)) (By := B1) (as := []) (rest := [(.ref s)]) at_24 (w3 hw) (w4 hw) (w2 hw) (w5 hw) rfl rfl (by decide) (tsi_met hw s) pd_0 rfl rfl rfl (by decide) (Nat.le_of_ble_eq_true rfl) (by decide) (by decide) (pc' := 27) rfl ?_
    rintro _ _ ⟨rfl, rfl⟩
    show WP _ _ _ _ _ _ _ _ _ _ [(.ref s)]
    refine WP.astore at_27 (pc' := 29) rfl rfl (ls' := #[.val (.long s0), .second, .val (.long s1), .second, .val (.long s2), .second, .val (.long n), .second, .val (.int k), .val (.int cn), .val (.int (0 : Int32)), .val (.ref s), .unset, .unset, .unset, .unset, .unset, .unset, .unset, .unset]) rfl ?_
    refine WP.newobj (lay := L_RQ) (vs := [.null, (.long 0), (.long 0), (.long 0), (.long 0), .null, (.int 0)]) at_29 (w9 hw) (w10 hw) (w11 hw) (lay_RQ hw) rfl (by decide) (by decide) (pc' := 32) rfl ?_
    intro r h4 eb_r g_r K5 O_r
    have lt_s_r : s < r := by rw [eb_r]; exact O_s.lt
    replace O_s := O_s.keep K5 own_nil
    refine WP.dup at_32 rfl (pc' := 33) rfl ?_
    refine WP.aconstNull at_33 (pc' := 34) rfl ?_
    refine WP.lconst0 at_34 (pc' := 35) rfl ?_
    refine WP.lconst0 at_35 (pc' := 36) rfl ?_
    refine WP.lconst1 at_36 (pc' := 37) rfl ?_
    refine WP.lconst0 at_37 (pc' := 38) rfl ?_
    refine WP.aconstNull at_38 (pc' := 39) rfl ?_
    refine WP.callI (a := r) (y := (⟨"com/example/apportion/apportion/Request", "<init>", "(Ljava/lang/String;JJJJLjava/math/BigInteger;)V"⟩ : MethodName)) (By := B3) (as := [.null, (.long (0 : Int64)), (.long (0 : Int64)), (.long (1 : Int64)), (.long (0 : Int64)), .null]) (rest := [(.ref r)]) at_39 (w12 hw) (w13 hw) (w11 hw) (w14 hw) rfl rfl (by decide) (rq1_met hw r g_r O_r) pd_14 rfl rfl rfl (by decide) (Nat.le_of_ble_eq_true rfl) (by decide) (by decide) (pc' := 42) rfl ?_
    rintro _ h6 ⟨rfl, Kq, O_n⟩
    replace O_s := O_s.keep Kq (own_cons (by first | assumption | exact Ne.symm (by assumption) | exact Nat.ne_of_lt (by assumption) | exact Nat.ne_of_gt (by assumption)) own_nil)
    replace O_r := O_n
    show WP _ _ _ _ _ _ _ _ _ _ [(.ref r)]
    refine WP.astore at_42 (pc' := 44) rfl rfl (ls' := #[.val (.long s0), .second, .val (.long s1), .second, .val (.long s2), .second, .val (.long n), .second, .val (.int k), .val (.int cn), .val (.int (0 : Int32)), .val (.ref s), .val (.ref r), .unset, .unset, .unset, .unset, .unset, .unset, .unset]) rfl ?_
    refine WP.newobj (lay := L_GJ) (vs := [(.int 0), (.long 0), .null, (.long 0), (.long 0), (.long 0), (.long 0), (.int 0), (.int 0), (.long 0), (.long 0)]) at_44 (w39 hw) (w40 hw) (w41 hw) (lay_GJ hw) rfl (by decide) (by decide) (pc' := 47) rfl ?_
    intro ja h7 eb_ja g_ja K8 O_ja
    have lt_s_ja : s < ja := by rw [eb_ja]; exact O_s.lt
    have lt_r_ja : r < ja := by rw [eb_ja]; exact O_r.lt
    replace O_s := O_s.keep K8 own_nil
    replace O_r := O_r.keep K8 own_nil
    refine WP.dup at_47 rfl (pc' := 48) rfl ?_
    refine WP.lload at_48 rfl (pc' := 50) rfl ?_
    refine WP.aload at_50 rfl rfl (pc' := 52) rfl ?_
    refine WP.iconst at_52 (z := (1 : Int32)) rfl (pc' := 53) rfl ?_
    refine WP.callI (a := ja) (y := (⟨"com/example/apportion/apportion/GridJob", "<init>", "(JLcom/example/apportion/apportion/Request;I)V"⟩ : MethodName)) (By := B6) (as := [(.long n), (.ref r), (.int (1 : Int32))]) (rest := [(.ref ja)]) at_53 (w42 hw) (w43 hw) (w41 hw) (w44 hw) rfl rfl (by decide) (gji_met hw ja r n g_ja O_ja O_r (by first | assumption | exact Ne.symm (by assumption) | exact Nat.ne_of_lt (by assumption) | exact Nat.ne_of_gt (by assumption))) pd_15 rfl rfl rfl (by decide) (Nat.le_of_ble_eq_true rfl) (by decide) (by decide) (pc' := 56) rfl ?_
    rintro _ h9 ⟨rfl, Kj, O_n⟩
    replace O_s := O_s.keep Kj (own_cons (by first | assumption | exact Ne.symm (by assumption) | exact Nat.ne_of_lt (by assumption) | exact Nat.ne_of_gt (by assumption)) own_nil)
    replace O_r := O_r.keep Kj (own_cons (by first | assumption | exact Ne.symm (by assumption) | exact Nat.ne_of_lt (by assumption) | exact Nat.ne_of_gt (by assumption)) own_nil)
    replace O_ja := O_n
    show WP _ _ _ _ _ _ _ _ _ _ [(.ref ja)]
    refine WP.astore at_56 (pc' := 58) rfl rfl (ls' := #[.val (.long s0), .second, .val (.long s1), .second, .val (.long s2), .second, .val (.long n), .second, .val (.int k), .val (.int cn), .val (.int (0 : Int32)), .val (.ref s), .val (.ref r), .val (.ref ja), .unset, .unset, .unset, .unset, .unset, .unset]) rfl ?_
    refine WP.aload at_58 rfl rfl (pc' := 60) rfl ?_
    refine WP.lloadN at_60 rfl (pc' := 61) rfl ?_
    refine WP.putf (i := 9) at_61 (w94 hw) O_ja (lay_GJ hw) (by decide) rfl (Or.inl (w95 hw)) (w40 hw) (t := .long) (by decide) rfl rfl g_ja (pc' := 64) rfl ?_
    intro h10 K11 O_n
    replace O_s := O_s.keep K11 (own_cons (by first | assumption | exact Ne.symm (by assumption) | exact Nat.ne_of_lt (by assumption) | exact Nat.ne_of_gt (by assumption)) own_nil)
    replace O_r := O_r.keep K11 (own_cons (by first | assumption | exact Ne.symm (by assumption) | exact Nat.ne_of_lt (by assumption) | exact Nat.ne_of_gt (by assumption)) own_nil)
    replace O_ja : Ob Z h10 ja "com/example/apportion/apportion/GridJob" L_GJ [(.int (-1 : Int32)), (.long n), .null, (.long (0 : Int64)), (.long (0 : Int64)), (.long (1 : Int64)), (.long (0 : Int64)), (.int (1 : Int32)), (.int (1 : Int32)), (.long s0), (.long (0 : Int64))] := O_n
    clear O_n
    refine WP.newobj (lay := L_GJ) (vs := [(.int 0), (.long 0), .null, (.long 0), (.long 0), (.long 0), (.long 0), (.int 0), (.int 0), (.long 0), (.long 0)]) at_64 (w39 hw) (w40 hw) (w41 hw) (lay_GJ hw) rfl (by decide) (by decide) (pc' := 67) rfl ?_
    intro jb h12 eb_jb g_jb K13 O_jb
    have lt_s_jb : s < jb := by rw [eb_jb]; exact O_s.lt
    have lt_r_jb : r < jb := by rw [eb_jb]; exact O_r.lt
    have lt_ja_jb : ja < jb := by rw [eb_jb]; exact O_ja.lt
    replace O_s := O_s.keep K13 own_nil
    replace O_r := O_r.keep K13 own_nil
    replace O_ja := O_ja.keep K13 own_nil
    refine WP.dup at_67 rfl (pc' := 68) rfl ?_
    refine WP.lload at_68 rfl (pc' := 70) rfl ?_
    refine WP.lconst1 at_70 (pc' := 71) rfl ?_
    refine WP.ladd at_71 (pc' := 72) rfl ?_
    refine WP.aload at_72 rfl rfl (pc' := 74) rfl ?_
    refine WP.iconst at_74 (z := (1 : Int32)) rfl (pc' := 75) rfl ?_
    refine WP.callI (a := jb) (y := (⟨"com/example/apportion/apportion/GridJob", "<init>", "(JLcom/example/apportion/apportion/Request;I)V"⟩ : MethodName)) (By := B6) (as := [(.long (n + (1 : Int64))), (.ref r), (.int (1 : Int32))]) (rest := [(.ref jb)]) at_75 (w42 hw) (w43 hw) (w41 hw) (w44 hw) rfl rfl (by decide) (gji_met hw jb r (n + (1 : Int64)) g_jb O_jb O_r (by first | assumption | exact Ne.symm (by assumption) | exact Nat.ne_of_lt (by assumption) | exact Nat.ne_of_gt (by assumption))) pd_15 rfl rfl rfl (by decide) (Nat.le_of_ble_eq_true rfl) (by decide) (by decide) (pc' := 78) rfl ?_
    rintro _ h14 ⟨rfl, Kj, O_n⟩
    replace O_s := O_s.keep Kj (own_cons (by first | assumption | exact Ne.symm (by assumption) | exact Nat.ne_of_lt (by assumption) | exact Nat.ne_of_gt (by assumption)) own_nil)
    replace O_r := O_r.keep Kj (own_cons (by first | assumption | exact Ne.symm (by assumption) | exact Nat.ne_of_lt (by assumption) | exact Nat.ne_of_gt (by assumption)) own_nil)
    replace O_ja := O_ja.keep Kj (own_cons (by first | assumption | exact Ne.symm (by assumption) | exact Nat.ne_of_lt (by assumption) | exact Nat.ne_of_gt (by assumption)) own_nil)
    replace O_jb := O_n
    show WP _ _ _ _ _ _ _ _ _ _ [(.ref jb)]
    refine WP.astore at_78 (pc' := 80) rfl rfl (ls' := #[.val (.long s0), .second, .val (.long s1), .second, .val (.long s2), .second, .val (.long n), .second, .val (.int k), .val (.int cn), .val (.int (0 : Int32)), .val (.ref s), .val (.ref r), .val (.ref ja), .val (.ref jb), .unset, .unset, .unset, .unset, .unset]) rfl ?_
    refine WP.aload at_80 rfl rfl (pc' := 82) rfl ?_
    refine WP.lloadN at_82 rfl (pc' := 83) rfl ?_
    refine WP.putf (i := 9) at_83 (w94 hw) O_jb (lay_GJ hw) (by decide) rfl (Or.inl (w95 hw)) (w40 hw) (t := .long) (by decide) rfl rfl g_jb (pc' := 86) rfl ?_
    intro h15 K16 O_n
    replace O_s := O_s.keep K16 (own_cons (by first | assumption | exact Ne.symm (by assumption) | exact Nat.ne_of_lt (by assumption) | exact Nat.ne_of_gt (by assumption)) own_nil)
    replace O_r := O_r.keep K16 (own_cons (by first | assumption | exact Ne.symm (by assumption) | exact Nat.ne_of_lt (by assumption) | exact Nat.ne_of_gt (by assumption)) own_nil)
    replace O_ja := O_ja.keep K16 (own_cons (by first | assumption | exact Ne.symm (by assumption) | exact Nat.ne_of_lt (by assumption) | exact Nat.ne_of_gt (by assumption)) own_nil)
    replace O_jb : Ob Z h15 jb "com/example/apportion/apportion/GridJob" L_GJ [(.int (-1 : Int32)), (.long (n + (1 : Int64))), .null, (.long (0 : Int64)), (.long (0 : Int64)), (.long (1 : Int64)), (.long (0 : Int64)), (.int (1 : Int32)), (.int (1 : Int32)), (.long s1), (.long (0 : Int64))] := O_n
    clear O_n
    refine WP.newobj (lay := L_GJ) (vs := [(.int 0), (.long 0), .null, (.long 0), (.long 0), (.long 0), (.long 0), (.int 0), (.int 0), (.long 0), (.long 0)]) at_86 (w39 hw) (w40 hw) (w41 hw) (lay_GJ hw) rfl (by decide) (by decide) (pc' := 89) rfl ?_
    intro jc h17 eb_jc g_jc K18 O_jc
    have lt_s_jc : s < jc := by rw [eb_jc]; exact O_s.lt
    have lt_r_jc : r < jc := by rw [eb_jc]; exact O_r.lt
    have lt_ja_jc : ja < jc := by rw [eb_jc]; exact O_ja.lt
    have lt_jb_jc : jb < jc := by rw [eb_jc]; exact O_jb.lt
    replace O_s := O_s.keep K18 own_nil
    replace O_r := O_r.keep K18 own_nil
    replace O_ja := O_ja.keep K18 own_nil
    replace O_jb := O_jb.keep K18 own_nil
    refine WP.dup at_89 rfl (pc' := 90) rfl ?_
    refine WP.lload at_90 rfl (pc' := 92) rfl ?_
    refine WP.ldc2J at_92 (w96 hw) (pc' := 95) rfl ?_
    refine WP.ladd at_95 (pc' := 96) rfl ?_
    refine WP.aload at_96 rfl rfl (pc' := 98) rfl ?_
    refine WP.iconst at_98 (z := (1 : Int32)) rfl (pc' := 99) rfl ?_
    refine WP.callI (a := jc) (y := (⟨"com/example/apportion/apportion/GridJob", "<init>", "(JLcom/example/apportion/apportion/Request;I)V"⟩ : MethodName)) (By := B6) (as := [(.long (n + (2 : Int64))), (.ref r), (.int (1 : Int32))]) (rest := [(.ref jc)]) at_99 (w42 hw) (w43 hw) (w41 hw) (w44 hw) rfl rfl (by decide) (gji_met hw jc r (n + (2 : Int64)) g_jc O_jc O_r (by first | assumption | exact Ne.symm (by assumption) | exact Nat.ne_of_lt (by assumption) | exact Nat.ne_of_gt (by assumption))) pd_15 rfl rfl rfl (by decide) (Nat.le_of_ble_eq_true rfl) (by decide) (by decide) (pc' := 102) rfl ?_
    rintro _ h19 ⟨rfl, Kj, O_n⟩
    replace O_s := O_s.keep Kj (own_cons (by first | assumption | exact Ne.symm (by assumption) | exact Nat.ne_of_lt (by assumption) | exact Nat.ne_of_gt (by assumption)) own_nil)
    replace O_r := O_r.keep Kj (own_cons (by first | assumption | exact Ne.symm (by assumption) | exact Nat.ne_of_lt (by assumption) | exact Nat.ne_of_gt (by assumption)) own_nil)
    replace O_ja := O_ja.keep Kj (own_cons (by first | assumption | exact Ne.symm (by assumption) | exact Nat.ne_of_lt (by assumption) | exact Nat.ne_of_gt (by assumption)) own_nil)
    replace O_jb := O_jb.keep Kj (own_cons (by first | assumption | exact Ne.symm (by assumption) | exact Nat.ne_of_lt (by assumption) | exact Nat.ne_of_gt (by assumption)) own_nil)
    replace O_jc := O_n
    show WP _ _ _ _ _ _ _ _ _ _ [(.ref jc)]
    refine WP.astore at_102 (pc' := 104) rfl rfl (ls' := #[.val (.long s0), .second, .val (.long s1), .second, .val (.long s2), .second, .val (.long n), .second, .val (.int k), .val (.int cn), .val (.int (0 : Int32)), .val (.ref s), .val (.ref r), .val (.ref ja), .val (.ref jb), .val (.ref jc), .unset, .unset, .unset, .unset]) rfl ?_
    refine WP.aload at_104 rfl rfl (pc' := 106) rfl ?_
    refine WP.lload at_106 rfl (pc' := 108) rfl ?_
    refine WP.putf (i := 9) at_108 (w94 hw) O_jc (lay_GJ hw) (by decide) rfl (Or.inl (w95 hw)) (w40 hw) (t := .long) (by decide) rfl rfl g_jc (pc' := 111) rfl ?_
    intro h20 K21 O_n
    replace O_s := O_s.keep K21 (own_cons (by first | assumption | exact Ne.symm (by assumption) | exact Nat.ne_of_lt (by assumption) | exact Nat.ne_of_gt (by assumption)) own_nil)
    replace O_r := O_r.keep K21 (own_cons (by first | assumption | exact Ne.symm (by assumption) | exact Nat.ne_of_lt (by assumption) | exact Nat.ne_of_gt (by assumption)) own_nil)
    replace O_ja := O_ja.keep K21 (own_cons (by first | assumption | exact Ne.symm (by assumption) | exact Nat.ne_of_lt (by assumption) | exact Nat.ne_of_gt (by assumption)) own_nil)
    replace O_jb := O_jb.keep K21 (own_cons (by first | assumption | exact Ne.symm (by assumption) | exact Nat.ne_of_lt (by assumption) | exact Nat.ne_of_gt (by assumption)) own_nil)
    replace O_jc : Ob Z h20 jc "com/example/apportion/apportion/GridJob" L_GJ [(.int (-1 : Int32)), (.long (n + (2 : Int64))), .null, (.long (0 : Int64)), (.long (0 : Int64)), (.long (1 : Int64)), (.long (0 : Int64)), (.int (1 : Int32)), (.int (1 : Int32)), (.long s2), (.long (0 : Int64))] := O_n
    clear O_n
    have n_ab : ja ≠ jb := (by first | assumption | exact Ne.symm (by assumption) | exact Nat.ne_of_lt (by assumption) | exact Nat.ne_of_gt (by assumption))
    have n_ac : ja ≠ jc := (by first | assumption | exact Ne.symm (by assumption) | exact Nat.ne_of_lt (by assumption) | exact Nat.ne_of_gt (by assumption))
    have n_bc : jb ≠ jc := (by first | assumption | exact Ne.symm (by assumption) | exact Nat.ne_of_lt (by assumption) | exact Nat.ne_of_gt (by assumption))
    obtain ⟨sf, f1, f2, f3⟩ := three n_ab n_ac n_bc s0 s1 s2
    obtain ⟨nf, g1, g2, g3⟩ := three n_ab n_ac n_bc n (n + (1 : Int64)) (n + (2 : Int64))
    have J : JOK Z h20 [ja, jb, jc] sf nf := by
      intro j hj
      simp only [List.mem_cons, List.not_mem_nil, or_false] at hj
      rcases hj with hj | hj | hj
      · rw [hj, f1, g1]; exact O_ja
      · rw [hj, f2, g2]; exact O_jb
      · rw [hj, f3, g3]; exact O_jc
    have hN : (nf ja).toInt ≠ (nf jb).toInt ∧ (nf ja).toInt ≠ (nf jc).toInt ∧ (nf jb).toInt ≠ (nf jc).toInt := by rw [g1, g2, g3]; exact nums n
    have hc : cn.toInt = k.toInt % 4 := by rw [e_cn]; exact own_mask k _ 2 _ (by decide) (by decide) (by decide)
    rcases (by omega : cn.toInt = 0 ∨ cn.toInt = 1 ∨ cn.toInt = 2 ∨ cn.toInt = 3) with hk | hk | hk | hk
    · rw [show cn = (0 : Int32) from own_e32 (by rw [hk]; decide)]; exact law_111_0_0 hw s0 s1 s2 n k s r ja jb jc n_ab n_ac n_bc sf nf J O_s g_s hN
    · rw [show cn = (1 : Int32) from own_e32 (by rw [hk]; decide)]; exact law_111_1_0 hw s0 s1 s2 n k s r ja jb jc n_ab n_ac n_bc sf nf J O_s g_s hN
    · rw [show cn = (2 : Int32) from own_e32 (by rw [hk]; decide)]; exact law_111_2_0 hw s0 s1 s2 n k s r ja jb jc n_ab n_ac n_bc sf nf J O_s g_s hN
    · rw [show cn = (3 : Int32) from own_e32 (by rw [hk]; decide)]; exact law_111_3_0 hw s0 s1 s2 n k s r ja jb jc n_ab n_ac n_bc sf nf J O_s g_s hN
  refine WP.iconst at_13 (z := (1 : Int32)) rfl (pc' := 14) rfl ?_
  refine WP.goto at_14 (pc' := 18) (by decide) ?_
  refine WP.istore at_18 (pc' := 20) rfl (ls' := #[.val (.long s0), .second, .val (.long s1), .second, .val (.long s2), .second, .val (.long n), .second, .val (.int k), .val (.int cn), .val (.int (1 : Int32)), .unset, .unset, .unset, .unset, .unset, .unset, .unset, .unset, .unset]) rfl ?_
  refine WP.newobj (lay := L_TS) (vs := [.null]) at_20 (w0 hw) (w1 hw) (w2 hw) (lay_TS hw) rfl (by decide) (by decide) (pc' := 23) rfl ?_
  intro s h22 eb_s g_s K23 O_s
  refine WP.dup at_23 rfl (pc' := 24) rfl ?_
  refine WP.callI (a := s) (y := (⟨"com/example/apportion/apportion/JobsByStart", "<init>", "()V"⟩ : MethodName)) (By := B1) (as := []) (rest := [(.ref s)]) at_24 (w3 hw) (w4 hw) (w2 hw) (w5 hw) rfl rfl (by decide) (tsi_met hw s) pd_0 rfl rfl rfl (by decide) (Nat.le_of_ble_eq_true rfl) (by decide) (by decide) (pc' := 27) rfl ?_
  rintro _ _ ⟨rfl, rfl⟩
  show WP _ _ _ _ _ _ _ _ _ _ [(.ref s)]
  refine WP.astore at_27 (pc' := 29) rfl rfl (ls' := #[.val (.long s0), .second, .val (.long s1), .second, .val (.long s2), .second, .val (.long n), .second, .val (.int k), .val (.int cn), .val (.int (1 : Int32)), .val (.ref s), .unset, .unset, .unset, .unset, .unset, .unset, .unset, .unset]) rfl ?_
  refine WP.newobj (lay := L_RQ) (vs := [.null, (.long 0), (.long 0), (.long 0), (.long 0), .null, (.int 0)]) at_29 (w9 hw) (w10 hw) (w11 hw) (lay_RQ hw) rfl (by decide) (by decide) (pc' := 32) rfl ?_
  intro r h25 eb_r g_r K26 O_r
  have lt_s_r : s < r := by rw [eb_r]; exact O_s.lt
  replace O_s := O_s.keep K26 own_nil
  refine WP.dup at_32 rfl (pc' := 33) rfl ?_
  refine WP.aconstNull at_33 (pc' := 34) rfl ?_
  refine WP.lconst0 at_34 (pc' := 35) rfl ?_
  refine WP.lconst0 at_35 (pc' := 36) rfl ?_
  refine WP.lconst1 at_36 (pc' := 37) rfl ?_
  refine WP.lconst0 at_37 (pc' := 38) rfl ?_
  refine WP.aconstNull at_38 (pc' := 39) rfl ?_
  refine WP.callI (a := r) (y := (⟨"com/example/apportion/apportion/Request", "<init>", "(Ljava/lang/String;JJJJLjava/math/BigInteger;)V"⟩ : MethodName)) (By := B3) (as := [.null, (.long (0 : Int64)), (.long (0 : Int64)), (.long (1 : Int64)), (.long (0 : Int64)), .null]) (rest := [(.ref r)]) at_39 (w12 hw) (w13 hw) (w11 hw) (w14 hw) rfl rfl (by decide) (rq1_met hw r g_r O_r) pd_14 rfl rfl rfl (by decide) (Nat.le_of_ble_eq_true rfl) (by decide) (by decide) (pc' := 42) rfl ?_
  rintro _ h27 ⟨rfl, Kq, O_n⟩
  replace O_s := O_s.keep Kq (own_cons (by first | assumption | exact Ne.symm (by assumption) | exact Nat.ne_of_lt (by assumption) | exact Nat.ne_of_gt (by assumption)) own_nil)
  replace O_r := O_n
  show WP _ _ _ _ _ _ _ _ _ _ [(.ref r)]
  refine WP.astore at_42 (pc' := 44) rfl rfl (ls' := #[.val (.long s0), .second, .val (.long s1), .second, .val (.long s2), .second, .val (.long n), .second, .val (.int k), .val (.int cn), .val (.int (1 : Int32)), .val (.ref s), .val (.ref r), .unset, .unset, .unset, .unset, .unset, .unset, .unset]) rfl ?_
  refine WP.newobj (lay := L_GJ) (vs := [(.int 0), (.long 0), .null, (.long 0), (.long 0), (.long 0), (.long 0), (.int 0), (.int 0), (.long 0), (.long 0)]) at_44 (w39 hw) (w40 hw) (w41 hw) (lay_GJ hw) rfl (by decide) (by decide) (pc' := 47) rfl ?_
  intro ja h28 eb_ja g_ja K29 O_ja
  have lt_s_ja : s < ja := by rw [eb_ja]; exact O_s.lt
  have lt_r_ja : r < ja := by rw [eb_ja]; exact O_r.lt
  replace O_s := O_s.keep K29 own_nil
  replace O_r := O_r.keep K29 own_nil
  refine WP.dup at_47 rfl (pc' := 48) rfl ?_
  refine WP.lload at_48 rfl (pc' := 50) rfl ?_
  refine WP.aload at_50 rfl rfl (pc' := 52) rfl ?_
  refine WP.iconst at_52 (z := (1 : Int32)) rfl (pc' := 53) rfl ?_
  refine WP.callI (a := ja) (y := (⟨"com/example/apportion/apportion/GridJob", "<init>", "(JLcom/example/apportion/apportion/Request;I)V"⟩ : MethodName)) (By := B6) (as := [(.long n), (.ref r), (.int (1 : Int32))]) (rest := [(.ref ja)]) at_53 (w42 hw) (w43 hw) (w41 hw) (w44 hw) rfl rfl (by decide) (gji_met hw ja r n g_ja O_ja O_r (by first | assumption | exact Ne.symm (by assumption) | exact Nat.ne_of_lt (by assumption) | exact Nat.ne_of_gt (by assumption))) pd_15 rfl rfl rfl (by decide) (Nat.le_of_ble_eq_true rfl) (by decide) (by decide) (pc' := 56) rfl ?_
  rintro _ h30 ⟨rfl, Kj, O_n⟩
  replace O_s := O_s.keep Kj (own_cons (by first | assumption | exact Ne.symm (by assumption) | exact Nat.ne_of_lt (by assumption) | exact Nat.ne_of_gt (by assumption)) own_nil)
  replace O_r := O_r.keep Kj (own_cons (by first | assumption | exact Ne.symm (by assumption) | exact Nat.ne_of_lt (by assumption) | exact Nat.ne_of_gt (by assumption)) own_nil)
  replace O_ja := O_n
  show WP _ _ _ _ _ _ _ _ _ _ [(.ref ja)]
  refine WP.astore at_56 (pc' := 58) rfl rfl (ls' := #[.val (.long s0), .second, .val (.long s1), .second, .val (.long s2), .second, .val (.long n), .second, .val (.int k), .val (.int cn), .val (.int (1 : Int32)), .val (.ref s), .val (.ref r), .val (.ref ja), .unset, .unset, .unset, .unset, .unset, .unset]) rfl ?_
  refine WP.aload at_58 rfl rfl (pc' := 60) rfl ?_
  refine WP.lloadN at_60 rfl (pc' := 61) rfl ?_
  refine WP.putf (i := 9) at_61 (w94 hw) O_ja (lay_GJ hw) (by decide) rfl (Or.inl (w95 hw)) (w40 hw) (t := .long) (by decide) rfl rfl g_ja (pc' := 64) rfl ?_
  intro h31 K32 O_n
  replace O_s := O_s.keep K32 (own_cons (by first | assumption | exact Ne.symm (by assumption) | exact Nat.ne_of_lt (by assumption) | exact Nat.ne_of_gt (by assumption)) own_nil)
  replace O_r := O_r.keep K32 (own_cons (by first | assumption | exact Ne.symm (by assumption) | exact Nat.ne_of_lt (by assumption) | exact Nat.ne_of_gt (by assumption)) own_nil)
  replace O_ja : Ob Z h31 ja "com/example/apportion/apportion/GridJob" L_GJ [(.int (-1 : Int32)), (.long n), .null, (.long (0 : Int64)), (.long (0 : Int64)), (.long (1 : Int64)), (.long (0 : Int64)), (.int (1 : Int32)), (.int (1 : Int32)), (.long s0), (.long (0 : Int64))] := O_n
  clear O_n
  refine WP.newobj (lay := L_GJ) (vs := [(.int 0), (.long 0), .null, (.long 0), (.long 0), (.long 0), (.long 0), (.int 0), (.int 0), (.long 0), (.long 0)]) at_64 (w39 hw) (w40 hw) (w41 hw) (lay_GJ hw) rfl (by decide) (by decide) (pc' := 67) rfl ?_
  intro jb h33 eb_jb g_jb K34 O_jb
  have lt_s_jb : s < jb := by rw [eb_jb]; exact O_s.lt
  have lt_r_jb : r < jb := by rw [eb_jb]; exact O_r.lt
  have lt_ja_jb : ja < jb := by rw [eb_jb]; exact O_ja.lt
  replace O_s := O_s.keep K34 own_nil
  replace O_r := O_r.keep K34 own_nil
  replace O_ja := O_ja.keep K34 own_nil
  refine WP.dup at_67 rfl (pc' := 68) rfl ?_
  refine WP.lload at_68 rfl (pc' := 70) rfl ?_
  refine WP.lconst1 at_70 (pc' := 71) rfl ?_
  refine WP.ladd at_71 (pc' := 72) rfl ?_
  refine WP.aload at_72 rfl rfl (pc' := 74) rfl ?_
  refine WP.iconst at_74 (z := (1 : Int32)) rfl (pc' := 75) rfl ?_
  refine WP.callI (a := jb) (y := (⟨"com/example/apportion/apportion/GridJob", "<init>", "(JLcom/example/apportion/apportion/Request;I)V"⟩ : MethodName)) (By := B6) (as := [(.long (n + (1 : Int64))), (.ref r), (.int (1 : Int32))]) (rest := [(.ref jb)]) at_75 (w42 hw) (w43 hw) (w41 hw) (w44 hw) rfl rfl (by decide) (gji_met hw jb r (n + (1 : Int64)) g_jb O_jb O_r (by first | assumption | exact Ne.symm (by assumption) | exact Nat.ne_of_lt (by assumption) | exact Nat.ne_of_gt (by assumption))) pd_15 rfl rfl rfl (by decide) (Nat.le_of_ble_eq_true rfl) (by decide) (by decide) (pc' := 78) rfl ?_
  rintro _ h35 ⟨rfl, Kj, O_n⟩
  replace O_s := O_s.keep Kj (own_cons (by first | assumption | exact Ne.symm (by assumption) | exact Nat.ne_of_lt (by assumption) | exact Nat.ne_of_gt (by assumption)) own_nil)
  replace O_r := O_r.keep Kj (own_cons (by first | assumption | exact Ne.symm (by assumption) | exact Nat.ne_of_lt (by assumption) | exact Nat.ne_of_gt (by assumption)) own_nil)
  replace O_ja := O_ja.keep Kj (own_cons (by first | assumption | exact Ne.symm (by assumption) | exact Nat.ne_of_lt (by assumption) | exact Nat.ne_of_gt (by assumption)) own_nil)
  replace O_jb := O_n
  show WP _ _ _ _ _ _ _ _ _ _ [(.ref jb)]
  refine WP.astore at_78 (pc' := 80) rfl rfl (ls' := #[.val (.long s0), .second, .val (.long s1), .second, .val (.long s2), .second, .val (.long n), .second, .val (.int k), .val (.int cn), .val (.int (1 : Int32)), .val (.ref s), .val (.ref r), .val (.ref ja), .val (.ref jb), .unset, .unset, .unset, .unset, .unset]) rfl ?_
  refine WP.aload at_80 rfl rfl (pc' := 82) rfl ?_
  refine WP.lloadN at_82 rfl (pc' := 83) rfl ?_
  refine WP.putf (i := 9) at_83 (w94 hw) O_jb (lay_GJ hw) (by decide) rfl (Or.inl (w95 hw)) (w40 hw) (t := .long) (by decide) rfl rfl g_jb (pc' := 86) rfl ?_
  intro h36 K37 O_n
  replace O_s := O_s.keep K37 (own_cons (by first | assumption | exact Ne.symm (by assumption) | exact Nat.ne_of_lt (by assumption) | exact Nat.ne_of_gt (by assumption)) own_nil)
  replace O_r := O_r.keep K37 (own_cons (by first | assumption | exact Ne.symm (by assumption) | exact Nat.ne_of_lt (by assumption) | exact Nat.ne_of_gt (by assumption)) own_nil)
  replace O_ja := O_ja.keep K37 (own_cons (by first | assumption | exact Ne.symm (by assumption) | exact Nat.ne_of_lt (by assumption) | exact Nat.ne_of_gt (by assumption)) own_nil)
  replace O_jb : Ob Z h36 jb "com/example/apportion/apportion/GridJob" L_GJ [(.int (-1 : Int32)), (.long (n + (1 : Int64))), .null, (.long (0 : Int64)), (.long (0 : Int64)), (.long (1 : Int64)), (.long (0 : Int64)), (.int (1 : Int32)), (.int (1 : Int32)), (.long s1), (.long (0 : Int64))] := O_n
  clear O_n
  refine WP.newobj (lay := L_GJ) (vs := [(.int 0), (.long 0), .null, (.long 0), (.long 0), (.long 0), (.long 0), (.int 0), (.int 0), (.long 0), (.long 0)]) at_86 (w39 hw) (w40 hw) (w41 hw) (lay_GJ hw) rfl (by decide) (by decide) (pc' := 89) rfl ?_
  intro jc h38 eb_jc g_jc K39 O_jc
  have lt_s_jc : s < jc := by rw [eb_jc]; exact O_s.lt
  have lt_r_jc : r < jc := by rw [eb_jc]; exact O_r.lt
  have lt_ja_jc : ja < jc := by rw [eb_jc]; exact O_ja.lt
  have lt_jb_jc : jb < jc := by rw [eb_jc]; exact O_jb.lt
  replace O_s := O_s.keep K39 own_nil
  replace O_r := O_r.keep K39 own_nil
  replace O_ja := O_ja.keep K39 own_nil
  replace O_jb := O_jb.keep K39 own_nil
  refine WP.dup at_89 rfl (pc' := 90) rfl ?_
  refine WP.lload at_90 rfl (pc' := 92) rfl ?_
  refine WP.ldc2J at_92 (w96 hw) (pc' := 95) rfl ?_
  refine WP.ladd at_95 (pc' := 96) rfl ?_
  refine WP.aload at_96 rfl rfl (pc' := 98) rfl ?_
  refine WP.iconst at_98 (z := (1 : Int32)) rfl (pc' := 99) rfl ?_
  refine WP.callI (a := jc) (y := (⟨"com/example/apportion/apportion/GridJob", "<init>", "(JLcom/example/apportion/apportion/Request;I)V"⟩ : MethodName)) (By := B6) (as := [(.long (n + (2 : Int64))), (.ref r), (.int (1 : Int32))]) (rest := [(.ref jc)]) at_99 (w42 hw) (w43 hw) (w41 hw) (w44 hw) rfl rfl (by decide) (gji_met hw jc r (n + (2 : Int64)) g_jc O_jc O_r (by first | assumption | exact Ne.symm (by assumption) | exact Nat.ne_of_lt (by assumption) | exact Nat.ne_of_gt (by assumption))) pd_15 rfl rfl rfl (by decide) (Nat.le_of_ble_eq_true rfl) (by decide) (by decide) (pc' := 102) rfl ?_
  rintro _ h40 ⟨rfl, Kj, O_n⟩
  replace O_s := O_s.keep Kj (own_cons (by first | assumption | exact Ne.symm (by assumption) | exact Nat.ne_of_lt (by assumption) | exact Nat.ne_of_gt (by assumption)) own_nil)
  replace O_r := O_r.keep Kj (own_cons (by first | assumption | exact Ne.symm (by assumption) | exact Nat.ne_of_lt (by assumption) | exact Nat.ne_of_gt (by assumption)) own_nil)
  replace O_ja := O_ja.keep Kj (own_cons (by first | assumption | exact Ne.symm (by assumption) | exact Nat.ne_of_lt (by assumption) | exact Nat.ne_of_gt (by assumption)) own_nil)
  replace O_jb := O_jb.keep Kj (own_cons (by first | assumption | exact Ne.symm (by assumption) | exact Nat.ne_of_lt (by assumption) | exact Nat.ne_of_gt (by assumption)) own_nil)
  replace O_jc := O_n
  show WP _ _ _ _ _ _ _ _ _ _ [(.ref jc)]
  refine WP.astore at_102 (pc' := 104) rfl rfl (ls' := #[.val (.long s0), .second, .val (.long s1), .second, .val (.long s2), .second, .val (.long n), .second, .val (.int k), .val (.int cn), .val (.int (1 : Int32)), .val (.ref s), .val (.ref r), .val (.ref ja), .val (.ref jb), .val (.ref jc), .unset, .unset, .unset, .unset]) rfl ?_
  refine WP.aload at_104 rfl rfl (pc' := 106) rfl ?_
  refine WP.lload at_106 rfl (pc' := 108) rfl ?_
  refine WP.putf (i := 9) at_108 (w94 hw) O_jc (lay_GJ hw) (by decide) rfl (Or.inl (w95 hw)) (w40 hw) (t := .long) (by decide) rfl rfl g_jc (pc' := 111) rfl ?_
  intro h41 K42 O_n
  replace O_s := O_s.keep K42 (own_cons (by first | assumption | exact Ne.symm (by assumption) | exact Nat.ne_of_lt (by assumption) | exact Nat.ne_of_gt (by assumption)) own_nil)
  replace O_r := O_r.keep K42 (own_cons (by first | assumption | exact Ne.symm (by assumption) | exact Nat.ne_of_lt (by assumption) | exact Nat.ne_of_gt (by assumption)) own_nil)
  replace O_ja := O_ja.keep K42 (own_cons (by first | assumption | exact Ne.symm (by assumption) | exact Nat.ne_of_lt (by assumption) | exact Nat.ne_of_gt (by assumption)) own_nil)
  replace O_jb := O_jb.keep K42 (own_cons (by first | assumption | exact Ne.symm (by assumption) | exact Nat.ne_of_lt (by assumption) | exact Nat.ne_of_gt (by assumption)) own_nil)
  replace O_jc : Ob Z h41 jc "com/example/apportion/apportion/GridJob" L_GJ [(.int (-1 : Int32)), (.long (n + (2 : Int64))), .null, (.long (0 : Int64)), (.long (0 : Int64)), (.long (1 : Int64)), (.long (0 : Int64)), (.int (1 : Int32)), (.int (1 : Int32)), (.long s2), (.long (0 : Int64))] := O_n
  clear O_n
  have n_ab : ja ≠ jb := (by first | assumption | exact Ne.symm (by assumption) | exact Nat.ne_of_lt (by assumption) | exact Nat.ne_of_gt (by assumption))
  have n_ac : ja ≠ jc := (by first | assumption | exact Ne.symm (by assumption) | exact Nat.ne_of_lt (by assumption) | exact Nat.ne_of_gt (by assumption))
  have n_bc : jb ≠ jc := (by first | assumption | exact Ne.symm (by assumption) | exact Nat.ne_of_lt (by assumption) | exact Nat.ne_of_gt (by assumption))
  obtain ⟨sf, f1, f2, f3⟩ := three n_ab n_ac n_bc s0 s1 s2
  obtain ⟨nf, g1, g2, g3⟩ := three n_ab n_ac n_bc n (n + (1 : Int64)) (n + (2 : Int64))
  have J : JOK Z h41 [ja, jb, jc] sf nf := by
    intro j hj
    simp only [List.mem_cons, List.not_mem_nil, or_false] at hj
    rcases hj with hj | hj | hj
    · rw [hj, f1, g1]; exact O_ja
    · rw [hj, f2, g2]; exact O_jb
    · rw [hj, f3, g3]; exact O_jc
  have hN : (nf ja).toInt ≠ (nf jb).toInt ∧ (nf ja).toInt ≠ (nf jc).toInt ∧ (nf jb).toInt ≠ (nf jc).toInt := by rw [g1, g2, g3]; exact nums n
  have hc : cn.toInt = k.toInt % 4 := by rw [e_cn]; exact own_mask k _ 2 _ (by decide) (by decide) (by decide)
  rcases (by omega : cn.toInt = 0 ∨ cn.toInt = 1 ∨ cn.toInt = 2 ∨ cn.toInt = 3) with hk | hk | hk | hk
  · rw [show cn = (0 : Int32) from own_e32 (by rw [hk]; decide)]; exact law_111_0_1 hw s0 s1 s2 n k s r ja jb jc n_ab n_ac n_bc sf nf J O_s g_s hN
  · rw [show cn = (1 : Int32) from own_e32 (by rw [hk]; decide)]; exact law_111_1_1 hw s0 s1 s2 n k s r ja jb jc n_ab n_ac n_bc sf nf J O_s g_s hN
  · rw [show cn = (2 : Int32) from own_e32 (by rw [hk]; decide)]; exact law_111_2_1 hw s0 s1 s2 n k s r ja jb jc n_ab n_ac n_bc sf nf J O_s g_s hN
  · rw [show cn = (3 : Int32) from own_e32 (by rw [hk]; decide)]; exact law_111_3_1 hw s0 s1 s2 n k s r ja jb jc n_ab n_ac n_bc sf nf J O_s g_s hN
theorem comes_1 {Post : Tables → Env → Array Value → State → Outcome → State → Prop} (hpost : ∀ tb e args s v u, (limb_1_1.after args s (.returned v) u = true ∧ limb_1_2.after args s (.returned v) u = true ∧ True) → FrameEnd s (.returned v) u (Jvm.fieldLocs frame_1_writes args s ++ Jvm.arrayLocs frame_1_arrays args s ++ Jvm.staticLocs frame_1_statics s) 24 192 → Post tb e args s (.returned v) u) :
    ArmFor flags0 classFile x code maxLocals ret World_1 tables_1 room_1 Calls_1 rest_1 Pre_1 Post := by
  intro l hfl _ _ p e ha hc hk s m args below hf hA hF happ hP
  obtain ⟨hcalls, hrest, hpre⟩ := hP
  obtain ⟨-, -, -, hnamed, -, -, -, hat⟩ := (Spec.applies_iff hf).mp happ
  obtain ⟨hg, hn⟩ := and_e (Cond.before_iff.mp (show (Jvm.Cond.and given_1 narrow_1).before args s = true from hpre))
  obtain ⟨q0, g0⟩ := and_e hg
  obtain ⟨a0, a1, a2, a3, a4, rfl⟩ : ∃ (a0 : Value) (a1 : Value) (a2 : Value) (a3 : Value) (a4 : Value), args = #[a0, a1, a2, a3, a4] := by
    have hs : args.size = 5 := by simpa [Cond.value, given_1] using q0
    obtain ⟨L⟩ := args
    match L, hs with
    | [a0, a1, a2, a3, a4], _ => exact ⟨a0, a1, a2, a3, a4, rfl⟩
  have hw : HW s #[a0, a1, a2, a3, a4] := fun d (hd : d ∈ tables_1) => atoms_spec (ws := Jvm.Cond.code x code maxLocals ret :: tables_1) hat d (List.mem_cons_of_mem _ hd)
  obtain ⟨p0, g1⟩ := and_e g0
  obtain ⟨i0, z0⟩ := isL_v p0
  obtain rfl : a0 = (.long i0) := Option.some.inj z0
  obtain ⟨p1, g2⟩ := and_e g1
  obtain ⟨i1, z1⟩ := isL_v p1
  obtain rfl : a1 = (.long i1) := Option.some.inj z1
  obtain ⟨p2, g3⟩ := and_e g2
  obtain ⟨i2, z2⟩ := isL_v p2
  obtain rfl : a2 = (.long i2) := Option.some.inj z2
  obtain ⟨p3, g4⟩ := and_e g3
  obtain ⟨i3, z3⟩ := isL_v p3
  obtain rfl : a3 = (.long i3) := Option.some.inj z3
  obtain ⟨i4, z4⟩ := is_v g4
  obtain rfl : a4 = (.int i4) := Option.some.inj z4
  obtain ⟨n, o, h1, h2, h3, _, L, rfl, ⟨rfl, N, -⟩, hq⟩ := law_met hw i0 i1 i2 i3 i4 (Nat.le_refl _) tables_1 p e ha hc hk s m _ below hf ((Spec.applies_iff_loose hf).mp happ).1 ⟨rfl, State.Warmed39.refl s, rfl⟩ trivial
  refine ⟨n, _, h1, h2, h3, hpost _ _ _ _ _ _ ⟨Cond.after_iff.mpr rfl, Cond.after_iff.mpr (eq_i res_at (Term.int_eval (1)) rfl), trivial⟩ ⟨hq.1, hq.2.1, (hq.2.2.sift fun y hy => Or.inr (N y hy)).mono (by decide) (by decide)⟩⟩
theorem main_1_1 : Claimed_1_1 := comes_1 fun _ _ _ _ _ _ h hF => ⟨h.1, hF⟩
theorem main_1_2 : Claimed_1_2 := comes_1 fun _ _ _ _ _ _ h hF => ⟨h.2.1, hF⟩
end Jvm.Pilot.@@N@@
namespace Jvm.Pilot.@@N@@
open Jvm Jvm.ClassFile Sem Op Lib Jvm.Free Jvm.Stand Jvm.Pilot.@@N@@.Jvm.D
/-! MADE BY PROGRAM (witnessworld.py) out of the Statement's table words and the real class files: 15 classes; the members and pool entries that the words name. The judged class is class 1, her method 2. -/
namespace start1
open Jvm.ClassFile
def u (s : String) : CpInfo := .utf8 (stringToUtf16 s)
/-- a pool by its gaps: so many unusable entries, then the entry; so many at the end -/
def gap : Nat → List CpInfo → List CpInfo
  | 0, r => r
  | n + 1, r => .unusable :: gap n r
def poolList (es : List (Nat × CpInfo)) (last : Nat) : List CpInfo := es.foldr (fun e r => gap e.1 (e.2 :: r)) (gap last [])
def pool (es : List (Nat × CpInfo)) (last : Nat) : Array CpInfo := ⟨poolList es last⟩
def fileOf (pool : Array CpInfo) (this : Nat) (attrs : Array Attribute := #[]) (ms : Array MethodInfo := #[]) (fl : Nat := 33) (sup : Nat := 0) (ifs : Array Nat := #[]) (fds : Array FieldInfo := #[]) : ClassFile where
  minorVersion := 0
  majorVersion := 65
  constantPool := pool
  accessFlags := fl
  thisClass := this
  superClass := sup
  interfaces := ifs
  fields := fds
  methods := ms
  attributes := attrs
def plain (name : String) (sup : Option ClassId) : Class where
  name := name
  kind := .ordinary
  loader := none
  accessFlags := 33
  super := sup
  interfaces := #[]
  cf := none
  fields := #[]
  methods := #[]
  instanceTypes := #[]
  staticTypes := #[]
  resolved := #[]
  callSites := []
  init := .initialized
  statics := none
  mirror := none

def pool0 : Array CpInfo := pool [(5, u "<init>"), (0, u "()V"), (1, .class_ 10), (1, u "java/lang/Object")] 113

def k0c0 : Code := { maxStack := 0, maxLocals := 1, code := object_method_1_code, exceptionTable := #[], attributes := #[] }
def k0m0 : Method := { name := "<init>", desc := "()V", sig := { parameters := [], returnType := none }, accessFlags := 1, code := some k0c0 }
/-- java/lang/Object -/
def k0 : Class := { plain "java/lang/Object" none with
  accessFlags := 33
  interfaces := #[]
  cf := some (fileOf pool0 8 #[] #[{ accessFlags := 1, nameIndex := 5, descriptorIndex := 6, attributes := #[] }] 33 0 #[] #[])
  fields := #[]
  methods := #[k0m0]
  instanceTypes := #[]
  staticTypes := #[]
  resolved := Array.replicate 124 none
  statics := none }

def pool1 : Array CpInfo := pool [(2, .class_ 4), (0, .nameAndType 5 6), (0, u "java/lang/Object"), (0, u "<init>"), (0, u "()V"), (0, .fieldref 8 9), (0, .class_ 10), (0, .nameAndType 11 12), (0, u "com/example/apportion/apportion/GridJob"), (0, u "start"), (0, u "J"), (0, .fieldref 8 14), (0, .nameAndType 15 12), (0, u "number"), (0, .class_ 17), (0, u "com/example/apportion/apportion/JobsByStart"), (0, .methodref 16 3), (0, .class_ 20), (0, u "com/example/apportion/apportion/Request"), (0, .methodref 19 22), (0, .nameAndType 5 23), (0, u "(Ljava/lang/String;JJJJLjava/math/BigInteger;)V"), (0, .methodref 8 25), (0, .nameAndType 5 26), (0, u "(JLcom/example/apportion/apportion/Request;I)V"), (0, .long 2), (1, .methodref 16 30), (0, .nameAndType 31 32), (0, u "add"), (0, u "(Lcom/example/apportion/apportion/GridJob;)V"), (0, .methodref 16 34), (0, .nameAndType 35 32), (0, u "remove"), (0, .methodref 37 38), (0, .class_ 39), (0, .nameAndType 40 41), (0, u "com/example/apportion/apportion/JobsByStartFirstPinLaw"), (0, u "before"), (0, u "(Lcom/example/apportion/apportion/GridJob;Lcom/example/apportion/apportion/GridJob;)Z"), (0, .methodref 16 43), (0, .nameAndType 44 45), (0, u "first"), (0, u "()Lcom/example/apportion/apportion/GridJob;"), (3, u "law"), (0, u "(JJJJI)Z")] 2

def k1m0 : Method := { name := "<init>", desc := "()V", sig := { parameters := [], returnType := none }, accessFlags := 1, code := none }
def k1c1 : Code := { maxStack := 4, maxLocals := 2, code := method_2_code, exceptionTable := #[], attributes := #[] }
def k1m1 : Method := { name := "before", desc := "(Lcom/example/apportion/apportion/GridJob;Lcom/example/apportion/apportion/GridJob;)Z", sig := { parameters := [(.object "com/example/apportion/apportion/GridJob"), (.object "com/example/apportion/apportion/GridJob")], returnType := some .boolean }, accessFlags := 10, code := some k1c1 }
def k1c2 : Code := { maxStack := 12, maxLocals := 20, code := code, exceptionTable := #[], attributes := #[] }
def k1m2 : Method := { name := "law", desc := "(JJJJI)Z", sig := { parameters := [.long, .long, .long, .long, .int], returnType := some .boolean }, accessFlags := 9, code := some k1c2 }
/-- com/example/apportion/apportion/JobsByStartFirstPinLaw -/
def k1 : Class := { plain "com/example/apportion/apportion/JobsByStartFirstPinLaw" (some 0) with
  accessFlags := 49
  interfaces := #[]
  cf := some (fileOf pool1 37 #[] #[{ accessFlags := 1, nameIndex := 5, descriptorIndex := 6, attributes := #[] }, { accessFlags := 10, nameIndex := 40, descriptorIndex := 41, attributes := #[] }, { accessFlags := 9, nameIndex := 49, descriptorIndex := 50, attributes := #[] }] 49 2 #[] #[])
  fields := #[]
  methods := #[k1m0, k1m1, k1m2]
  instanceTypes := #[]
  staticTypes := #[]
  resolved := Array.replicate 53 none
  statics := none }

def pool2 : Array CpInfo := pool [(1, .methodref 2 3), (0, .class_ 4), (0, .nameAndType 5 6), (0, u "java/lang/Object"), (0, u "<init>"), (0, u "()V"), (0, .fieldref 8 9), (0, .class_ 10), (0, .nameAndType 11 12), (0, u "com/example/apportion/apportion/JobsByStart"), (0, u "root"), (0, u "Lcom/example/apportion/apportion/JobsByStart$Node;"), (0, .fieldref 14 15), (0, .class_ 16), (0, .nameAndType 17 12), (0, u "com/example/apportion/apportion/JobsByStart$Node"), (0, u "left"), (0, .fieldref 14 19), (0, .nameAndType 20 21), (0, u "job"), (0, u "Lcom/example/apportion/apportion/GridJob;"), (0, .fieldref 14 23), (0, .nameAndType 24 12), (0, u "right"), (0, .methodref 14 26), (0, .nameAndType 5 27), (0, u "(Lcom/example/apportion/apportion/GridJob;)V"), (0, .methodref 8 29), (0, .nameAndType 30 31), (0, u "insert"), (0, u "(Lcom/example/apportion/apportion/JobsByStart$Node;Lcom/example/apportion/apportion/JobsByStart$Node;)Lcom/example/apportion/apportion/JobsByStart$Node;"), (0, .methodref 8 33), (0, .nameAndType 34 35), (0, u "without"), (0, u "(Lcom/example/apportion/apportion/JobsByStart$Node;Lcom/example/apportion/apportion/GridJob;)Lcom/example/apportion/apportion/JobsByStart$Node;"), (0, .methodref 8 37), (0, .nameAndType 38 39), (0, u "precedes"), (0, u "(Lcom/example/apportion/apportion/GridJob;Lcom/example/apportion/apportion/GridJob;)Z"), (0, .fieldref 14 41), (0, .nameAndType 42 21), (0, u "latest"), (0, .methodref 44 45), (0, .class_ 46), (0, .nameAndType 47 48), (0, u "com/example/apportion/apportion/GridJob"), (0, u "deadlineLaterThan"), (0, u "(Lcom/example/apportion/apportion/GridJob;)Z"), (0, .class_ 50), (0, u "com/example/apportion/apportion/JobsByStart$Walk"), (7, .fieldref 44 59), (0, .nameAndType 60 61), (0, u "start"), (0, u "J"), (0, .fieldref 44 63), (0, .nameAndType 64 61), (0, u "number"), (0, .fieldref 14 66), (0, .nameAndType 67 61), (0, u "priority"), (0, .methodref 8 69), (0, .nameAndType 70 71), (0, u "pull"), (0, u "(Lcom/example/apportion/apportion/JobsByStart$Node;)V"), (0, .methodref 8 73), (0, .nameAndType 74 31), (0, u "join"), (0, .fieldref 44 76), (0, .nameAndType 77 61), (0, u "end"), (0, .fieldref 14 79), (0, .nameAndType 80 61), (0, u "lastEnd"), (0, .methodref 82 83), (0, .class_ 84), (0, .nameAndType 85 86), (0, u "java/lang/Math"), (0, u "max"), (0, u "(JJ)J"), (0, .class_ 88), (0, u "com/example/apportion/apportion/JobsByStart$1"), (8, u "first"), (0, u "()Lcom/example/apportion/apportion/GridJob;"), (1, u "add"), (0, u "remove")] 34

def k2c0 : Code := { maxStack := 1, maxLocals := 1, code := prog_103_method_1_code, exceptionTable := #[], attributes := #[] }
def k2m0 : Method := { name := "<init>", desc := "()V", sig := { parameters := [], returnType := none }, accessFlags := 0, code := some k2c0 }
def k2c1 : Code := { maxStack := 1, maxLocals := 2, code := prog_103_method_3_code, exceptionTable := #[], attributes := #[] }
def k2m1 : Method := { name := "first", desc := "()Lcom/example/apportion/apportion/GridJob;", sig := { parameters := [], returnType := some (.object "com/example/apportion/apportion/GridJob") }, accessFlags := 0, code := some k2c1 }
def k2c2 : Code := { maxStack := 5, maxLocals := 2, code := prog_103_method_5_code, exceptionTable := #[], attributes := #[] }
def k2m2 : Method := { name := "add", desc := "(Lcom/example/apportion/apportion/GridJob;)V", sig := { parameters := [(.object "com/example/apportion/apportion/GridJob")], returnType := none }, accessFlags := 0, code := some k2c2 }
def k2c3 : Code := { maxStack := 3, maxLocals := 2, code := prog_103_method_6_code, exceptionTable := #[], attributes := #[] }
def k2m3 : Method := { name := "remove", desc := "(Lcom/example/apportion/apportion/GridJob;)V", sig := { parameters := [(.object "com/example/apportion/apportion/GridJob")], returnType := none }, accessFlags := 0, code := some k2c3 }
def k2c4 : Code := { maxStack := 4, maxLocals := 2, code := prog_103_method_11_code, exceptionTable := #[], attributes := #[] }
def k2m4 : Method := { name := "precedes", desc := "(Lcom/example/apportion/apportion/GridJob;Lcom/example/apportion/apportion/GridJob;)Z", sig := { parameters := [(.object "com/example/apportion/apportion/GridJob"), (.object "com/example/apportion/apportion/GridJob")], returnType := some .boolean }, accessFlags := 10, code := some k2c4 }
def k2c5 : Code := { maxStack := 4, maxLocals := 3, code := prog_103_method_12_code, exceptionTable := #[], attributes := #[] }
def k2m5 : Method := { name := "insert", desc := "(Lcom/example/apportion/apportion/JobsByStart$Node;Lcom/example/apportion/apportion/JobsByStart$Node;)Lcom/example/apportion/apportion/JobsByStart$Node;", sig := { parameters := [(.object "com/example/apportion/apportion/JobsByStart$Node"), (.object "com/example/apportion/apportion/JobsByStart$Node")], returnType := some (.object "com/example/apportion/apportion/JobsByStart$Node") }, accessFlags := 10, code := some k2c5 }
def k2c6 : Code := { maxStack := 3, maxLocals := 2, code := prog_103_method_13_code, exceptionTable := #[], attributes := #[] }
def k2m6 : Method := { name := "without", desc := "(Lcom/example/apportion/apportion/JobsByStart$Node;Lcom/example/apportion/apportion/GridJob;)Lcom/example/apportion/apportion/JobsByStart$Node;", sig := { parameters := [(.object "com/example/apportion/apportion/JobsByStart$Node"), (.object "com/example/apportion/apportion/GridJob")], returnType := some (.object "com/example/apportion/apportion/JobsByStart$Node") }, accessFlags := 10, code := some k2c6 }
def k2c7 : Code := { maxStack := 4, maxLocals := 2, code := prog_103_method_14_code, exceptionTable := #[], attributes := #[] }
def k2m7 : Method := { name := "join", desc := "(Lcom/example/apportion/apportion/JobsByStart$Node;Lcom/example/apportion/apportion/JobsByStart$Node;)Lcom/example/apportion/apportion/JobsByStart$Node;", sig := { parameters := [(.object "com/example/apportion/apportion/JobsByStart$Node"), (.object "com/example/apportion/apportion/JobsByStart$Node")], returnType := some (.object "com/example/apportion/apportion/JobsByStart$Node") }, accessFlags := 10, code := some k2c7 }
def k2c8 : Code := { maxStack := 4, maxLocals := 4, code := prog_103_method_15_code, exceptionTable := #[], attributes := #[] }
def k2m8 : Method := { name := "pull", desc := "(Lcom/example/apportion/apportion/JobsByStart$Node;)V", sig := { parameters := [(.object "com/example/apportion/apportion/JobsByStart$Node")], returnType := none }, accessFlags := 10, code := some k2c8 }
/-- com/example/apportion/apportion/JobsByStart -/
def k2 : Class := { plain "com/example/apportion/apportion/JobsByStart" (some 0) with
  accessFlags := 48
  interfaces := #[]
  cf := some (fileOf pool2 8 #[.nestMembers #[49, 14, 87]] #[{ accessFlags := 0, nameIndex := 5, descriptorIndex := 6, attributes := #[] }, { accessFlags := 0, nameIndex := 97, descriptorIndex := 98, attributes := #[] }, { accessFlags := 0, nameIndex := 100, descriptorIndex := 27, attributes := #[] }, { accessFlags := 0, nameIndex := 101, descriptorIndex := 27, attributes := #[] }, { accessFlags := 10, nameIndex := 38, descriptorIndex := 39, attributes := #[] }, { accessFlags := 10, nameIndex := 30, descriptorIndex := 31, attributes := #[] }, { accessFlags := 10, nameIndex := 34, descriptorIndex := 35, attributes := #[] }, { accessFlags := 10, nameIndex := 74, descriptorIndex := 31, attributes := #[] }, { accessFlags := 10, nameIndex := 70, descriptorIndex := 71, attributes := #[] }] 48 2 #[] #[{ accessFlags := 2, nameIndex := 11, descriptorIndex := 12, attributes := #[] }])
  fields := #[{ name := "root", type := (.object "com/example/apportion/apportion/JobsByStart$Node"), accessFlags := 2, slot := 0, constantValue := 0 }]
  methods := #[k2m0, k2m1, k2m2, k2m3, k2m4, k2m5, k2m6, k2m7, k2m8]
  instanceTypes := #[(.object "com/example/apportion/apportion/JobsByStart$Node")]
  staticTypes := #[]
  resolved := Array.replicate 136 none
  statics := none }

def pool3 : Array CpInfo := pool [(1, .methodref 2 3), (0, .class_ 4), (0, .nameAndType 5 6), (0, u "java/lang/Object"), (0, u "<init>"), (0, u "()V"), (0, .class_ 8), (0, u "java/lang/Record")] 13

def k3c0 : Code := { maxStack := 1, maxLocals := 1, code := jdk_30_method_1_code, exceptionTable := #[], attributes := #[] }
def k3m0 : Method := { name := "<init>", desc := "()V", sig := { parameters := [], returnType := none }, accessFlags := 4, code := some k3c0 }
/-- java/lang/Record -/
def k3 : Class := { plain "java/lang/Record" (some 0) with
  accessFlags := 1057
  interfaces := #[]
  cf := some (fileOf pool3 7 #[] #[{ accessFlags := 4, nameIndex := 5, descriptorIndex := 6, attributes := #[] }] 1057 2 #[] #[])
  fields := #[]
  methods := #[k3m0]
  instanceTypes := #[]
  staticTypes := #[]
  resolved := Array.replicate 22 none
  statics := none }

def pool4 : Array CpInfo := pool [(3, .methodref 4 5), (0, .class_ 6), (0, .nameAndType 7 8), (0, u "java/lang/Record"), (0, u "<init>"), (0, u "()V"), (0, .fieldref 10 11), (0, .class_ 12), (0, .nameAndType 13 14), (0, u "com/example/apportion/apportion/Request"), (0, u "id"), (0, u "Ljava/lang/String;"), (0, .fieldref 10 16), (0, .nameAndType 17 18), (0, u "arrival"), (0, u "J"), (0, .fieldref 10 20), (0, .nameAndType 21 18), (0, u "ready"), (0, .fieldref 10 23), (0, .nameAndType 24 18), (0, u "length"), (0, .fieldref 10 26), (0, .nameAndType 27 18), (0, u "deadline"), (0, .fieldref 10 29), (0, .nameAndType 30 31), (0, u "servers"), (0, u "Ljava/math/BigInteger;"), (0, .fieldref 10 33), (0, .nameAndType 34 35), (0, u "hasDeadline"), (0, u "Z"), (0, .long 9223372036854775807), (1, .methodref 10 39), (0, .nameAndType 7 40), (0, u "(Ljava/lang/String;JJJJLjava/math/BigInteger;Z)V"), (25, u "()Ljava/lang/String;"), (5, u "MOST_SERVERS"), (26, u "NO_DEADLINE"), (1, u "MOST_SERVERS_DIGITS"), (0, u "I"), (1, u "(Ljava/lang/String;JJJJLjava/math/BigInteger;)V"), (14, u "()J"), (1, u "()Z"), (8, .class_ 131), (0, u "com/example/apportion/apportion/Request$DeadlineRule")] 41

def k4c0 : Code := { maxStack := 15, maxLocals := 11, code := prog_148_method_1_code, exceptionTable := #[], attributes := #[] }
def k4m0 : Method := { name := "<init>", desc := "(Ljava/lang/String;JJJJLjava/math/BigInteger;)V", sig := { parameters := [(.object "java/lang/String"), .long, .long, .long, .long, (.object "java/math/BigInteger")], returnType := none }, accessFlags := 0, code := some k4c0 }
def k4c1 : Code := { maxStack := 3, maxLocals := 12, code := prog_148_method_2_code, exceptionTable := #[], attributes := #[] }
def k4m1 : Method := { name := "<init>", desc := "(Ljava/lang/String;JJJJLjava/math/BigInteger;Z)V", sig := { parameters := [(.object "java/lang/String"), .long, .long, .long, .long, (.object "java/math/BigInteger"), .boolean], returnType := none }, accessFlags := 0, code := some k4c1 }
def k4c2 : Code := { maxStack := 1, maxLocals := 1, code := prog_148_method_15_code, exceptionTable := #[], attributes := #[] }
def k4m2 : Method := { name := "id", desc := "()Ljava/lang/String;", sig := { parameters := [], returnType := some (.object "java/lang/String") }, accessFlags := 1, code := some k4c2 }
def k4c3 : Code := { maxStack := 2, maxLocals := 1, code := prog_148_method_16_code, exceptionTable := #[], attributes := #[] }
def k4m3 : Method := { name := "arrival", desc := "()J", sig := { parameters := [], returnType := some .long }, accessFlags := 1, code := some k4c3 }
def k4c4 : Code := { maxStack := 2, maxLocals := 1, code := prog_148_method_17_code, exceptionTable := #[], attributes := #[] }
def k4m4 : Method := { name := "ready", desc := "()J", sig := { parameters := [], returnType := some .long }, accessFlags := 1, code := some k4c4 }
def k4c5 : Code := { maxStack := 2, maxLocals := 1, code := prog_148_method_18_code, exceptionTable := #[], attributes := #[] }
def k4m5 : Method := { name := "length", desc := "()J", sig := { parameters := [], returnType := some .long }, accessFlags := 1, code := some k4c5 }
def k4c6 : Code := { maxStack := 2, maxLocals := 1, code := prog_148_method_19_code, exceptionTable := #[], attributes := #[] }
def k4m6 : Method := { name := "deadline", desc := "()J", sig := { parameters := [], returnType := some .long }, accessFlags := 1, code := some k4c6 }
def k4c7 : Code := { maxStack := 1, maxLocals := 1, code := prog_148_method_21_code, exceptionTable := #[], attributes := #[] }
def k4m7 : Method := { name := "hasDeadline", desc := "()Z", sig := { parameters := [], returnType := some .boolean }, accessFlags := 1, code := some k4c7 }
/-- com/example/apportion/apportion/Request -/
def k4 : Class := { plain "com/example/apportion/apportion/Request" (some 3) with
  accessFlags := 48
  interfaces := #[]
  cf := some (fileOf pool4 10 #[.nestMembers #[130]] #[{ accessFlags := 0, nameIndex := 7, descriptorIndex := 104, attributes := #[] }, { accessFlags := 0, nameIndex := 7, descriptorIndex := 40, attributes := #[] }, { accessFlags := 1, nameIndex := 13, descriptorIndex := 66, attributes := #[] }, { accessFlags := 1, nameIndex := 17, descriptorIndex := 119, attributes := #[] }, { accessFlags := 1, nameIndex := 21, descriptorIndex := 119, attributes := #[] }, { accessFlags := 1, nameIndex := 24, descriptorIndex := 119, attributes := #[] }, { accessFlags := 1, nameIndex := 27, descriptorIndex := 119, attributes := #[] }, { accessFlags := 1, nameIndex := 34, descriptorIndex := 121, attributes := #[] }] 48 4 #[] #[{ accessFlags := 18, nameIndex := 13, descriptorIndex := 14, attributes := #[] }, { accessFlags := 18, nameIndex := 17, descriptorIndex := 18, attributes := #[] }, { accessFlags := 18, nameIndex := 21, descriptorIndex := 18, attributes := #[] }, { accessFlags := 18, nameIndex := 24, descriptorIndex := 18, attributes := #[] }, { accessFlags := 18, nameIndex := 27, descriptorIndex := 18, attributes := #[] }, { accessFlags := 18, nameIndex := 30, descriptorIndex := 31, attributes := #[] }, { accessFlags := 18, nameIndex := 34, descriptorIndex := 35, attributes := #[] }, { accessFlags := 24, nameIndex := 99, descriptorIndex := 18, attributes := #[] }, { accessFlags := 24, nameIndex := 101, descriptorIndex := 102, attributes := #[] }, { accessFlags := 24, nameIndex := 72, descriptorIndex := 31, attributes := #[] }])
  fields := #[{ name := "id", type := (.object "java/lang/String"), accessFlags := 18, slot := 0, constantValue := 0 }, { name := "arrival", type := .long, accessFlags := 18, slot := 1, constantValue := 0 }, { name := "ready", type := .long, accessFlags := 18, slot := 2, constantValue := 0 }, { name := "length", type := .long, accessFlags := 18, slot := 3, constantValue := 0 }, { name := "deadline", type := .long, accessFlags := 18, slot := 4, constantValue := 0 }, { name := "servers", type := (.object "java/math/BigInteger"), accessFlags := 18, slot := 5, constantValue := 0 }, { name := "hasDeadline", type := .boolean, accessFlags := 18, slot := 6, constantValue := 0 }, { name := "NO_DEADLINE", type := .long, accessFlags := 24, slot := 0, constantValue := 0 }, { name := "MOST_SERVERS_DIGITS", type := .int, accessFlags := 24, slot := 1, constantValue := 0 }, { name := "MOST_SERVERS", type := (.object "java/math/BigInteger"), accessFlags := 24, slot := 2, constantValue := 0 }]
  methods := #[k4m0, k4m1, k4m2, k4m3, k4m4, k4m5, k4m6, k4m7]
  instanceTypes := #[(.object "java/lang/String"), .long, .long, .long, .long, (.object "java/math/BigInteger"), .boolean]
  staticTypes := #[.long, .int, (.object "java/math/BigInteger")]
  resolved := Array.replicate 173 none
  statics := none }

def pool5 : Array CpInfo := pool [(1, .methodref 2 3), (0, .class_ 4), (0, .nameAndType 5 6), (0, u "java/lang/Object"), (0, u "<init>"), (0, u "()V"), (0, .fieldref 8 9), (0, .class_ 10), (0, .nameAndType 11 12), (0, u "com/example/apportion/apportion/GridJob"), (0, u "machine"), (0, u "I"), (0, .fieldref 8 14), (0, .nameAndType 15 16), (0, u "number"), (0, u "J"), (0, .methodref 18 19), (0, .class_ 20), (0, .nameAndType 21 22), (0, u "com/example/apportion/apportion/Request"), (0, u "id"), (0, u "()Ljava/lang/String;"), (0, .fieldref 8 24), (0, .nameAndType 21 25), (0, u "Ljava/lang/String;"), (0, .methodref 18 27), (0, .nameAndType 28 29), (0, u "arrival"), (0, u "()J"), (0, .fieldref 8 31), (0, .nameAndType 28 16), (0, .methodref 18 33), (0, .nameAndType 34 29), (0, u "ready"), (0, .fieldref 8 36), (0, .nameAndType 34 16), (0, .methodref 18 38), (0, .nameAndType 39 29), (0, u "length"), (0, .fieldref 8 41), (0, .nameAndType 39 16), (0, .methodref 18 43), (0, .nameAndType 44 29), (0, u "deadline"), (0, .fieldref 8 46), (0, .nameAndType 44 16), (0, .methodref 18 48), (0, .nameAndType 49 50), (0, u "hasDeadline"), (0, u "()Z"), (0, .fieldref 8 52), (0, .nameAndType 49 53), (0, u "Z"), (0, .fieldref 8 55), (0, .nameAndType 56 12), (0, u "servers"), (0, u "start"), (0, u "end"), (0, u "started"), (0, u "(JLcom/example/apportion/apportion/Request;I)V"), (5, u "deadlineLaterThan"), (0, u "(Lcom/example/apportion/apportion/GridJob;)Z")] 2

def k5c0 : Code := { maxStack := 3, maxLocals := 5, code := prog_79_method_1_code, exceptionTable := #[], attributes := #[] }
def k5m0 : Method := { name := "<init>", desc := "(JLcom/example/apportion/apportion/Request;I)V", sig := { parameters := [.long, (.object "com/example/apportion/apportion/Request"), .int], returnType := none }, accessFlags := 0, code := some k5c0 }
def k5c1 : Code := { maxStack := 4, maxLocals := 2, code := prog_79_method_3_code, exceptionTable := #[], attributes := #[] }
def k5m1 : Method := { name := "deadlineLaterThan", desc := "(Lcom/example/apportion/apportion/GridJob;)Z", sig := { parameters := [(.object "com/example/apportion/apportion/GridJob")], returnType := some .boolean }, accessFlags := 0, code := some k5c1 }
/-- com/example/apportion/apportion/GridJob -/
def k5 : Class := { plain "com/example/apportion/apportion/GridJob" (some 0) with
  accessFlags := 48
  interfaces := #[]
  cf := some (fileOf pool5 8 #[] #[{ accessFlags := 0, nameIndex := 5, descriptorIndex := 60, attributes := #[] }, { accessFlags := 0, nameIndex := 66, descriptorIndex := 67, attributes := #[] }] 48 2 #[] #[{ accessFlags := 16, nameIndex := 15, descriptorIndex := 16, attributes := #[] }, { accessFlags := 16, nameIndex := 21, descriptorIndex := 25, attributes := #[] }, { accessFlags := 16, nameIndex := 28, descriptorIndex := 16, attributes := #[] }, { accessFlags := 16, nameIndex := 34, descriptorIndex := 16, attributes := #[] }, { accessFlags := 16, nameIndex := 39, descriptorIndex := 16, attributes := #[] }, { accessFlags := 16, nameIndex := 44, descriptorIndex := 16, attributes := #[] }, { accessFlags := 16, nameIndex := 49, descriptorIndex := 53, attributes := #[] }, { accessFlags := 16, nameIndex := 56, descriptorIndex := 12, attributes := #[] }, { accessFlags := 0, nameIndex := 11, descriptorIndex := 12, attributes := #[] }, { accessFlags := 0, nameIndex := 57, descriptorIndex := 16, attributes := #[] }, { accessFlags := 0, nameIndex := 58, descriptorIndex := 16, attributes := #[] }, { accessFlags := 0, nameIndex := 59, descriptorIndex := 53, attributes := #[] }])
  fields := #[{ name := "number", type := .long, accessFlags := 16, slot := 0, constantValue := 0 }, { name := "id", type := (.object "java/lang/String"), accessFlags := 16, slot := 1, constantValue := 0 }, { name := "arrival", type := .long, accessFlags := 16, slot := 2, constantValue := 0 }, { name := "ready", type := .long, accessFlags := 16, slot := 3, constantValue := 0 }, { name := "length", type := .long, accessFlags := 16, slot := 4, constantValue := 0 }, { name := "deadline", type := .long, accessFlags := 16, slot := 5, constantValue := 0 }, { name := "hasDeadline", type := .boolean, accessFlags := 16, slot := 6, constantValue := 0 }, { name := "servers", type := .int, accessFlags := 16, slot := 7, constantValue := 0 }, { name := "machine", type := .int, accessFlags := 0, slot := 8, constantValue := 0 }, { name := "start", type := .long, accessFlags := 0, slot := 9, constantValue := 0 }, { name := "end", type := .long, accessFlags := 0, slot := 10, constantValue := 0 }, { name := "started", type := .boolean, accessFlags := 0, slot := 11, constantValue := 0 }]
  methods := #[k5m0, k5m1]
  instanceTypes := #[.long, (.object "java/lang/String"), .long, .long, .long, .long, .boolean, .int, .int, .long, .long, .boolean]
  staticTypes := #[]
  resolved := Array.replicate 70 none
  statics := none }

def pool6 : Array CpInfo := pool [(1, .methodref 2 3), (0, .class_ 4), (0, .nameAndType 5 6), (0, u "java/lang/Object"), (0, u "<init>"), (0, u "()V"), (0, .fieldref 8 9), (0, .class_ 10), (0, .nameAndType 11 12), (0, u "com/example/apportion/apportion/JobsByStart$Node"), (0, u "job"), (0, u "Lcom/example/apportion/apportion/GridJob;"), (0, .fieldref 14 15), (0, .class_ 16), (0, .nameAndType 17 18), (0, u "com/example/apportion/apportion/GridJob"), (0, u "number"), (0, u "J"), (0, .methodref 20 21), (0, .class_ 22), (0, .nameAndType 23 24), (0, u "com/example/apportion/apportion/SplitMix64"), (0, u "mix"), (0, u "(J)J"), (0, .fieldref 8 26), (0, .nameAndType 27 18), (0, u "priority"), (0, .fieldref 8 29), (0, .nameAndType 30 12), (0, u "latest"), (0, .fieldref 14 32), (0, .nameAndType 33 18), (0, u "end"), (0, .fieldref 8 35), (0, .nameAndType 36 18), (0, u "lastEnd"), (0, u "left"), (0, u "Lcom/example/apportion/apportion/JobsByStart$Node;"), (0, u "right"), (0, u "(Lcom/example/apportion/apportion/GridJob;)V"), (5, .class_ 47), (0, u "com/example/apportion/apportion/JobsByStart")] 2

def k6c0 : Code := { maxStack := 3, maxLocals := 2, code := prog_105_method_1_code, exceptionTable := #[], attributes := #[] }
def k6m0 : Method := { name := "<init>", desc := "(Lcom/example/apportion/apportion/GridJob;)V", sig := { parameters := [(.object "com/example/apportion/apportion/GridJob")], returnType := none }, accessFlags := 0, code := some k6c0 }
/-- com/example/apportion/apportion/JobsByStart$Node -/
def k6 : Class := { plain "com/example/apportion/apportion/JobsByStart$Node" (some 0) with
  accessFlags := 48
  interfaces := #[]
  cf := some (fileOf pool6 8 #[.nestHost 46] #[{ accessFlags := 0, nameIndex := 5, descriptorIndex := 40, attributes := #[] }] 48 2 #[] #[{ accessFlags := 16, nameIndex := 11, descriptorIndex := 12, attributes := #[] }, { accessFlags := 16, nameIndex := 27, descriptorIndex := 18, attributes := #[] }, { accessFlags := 0, nameIndex := 37, descriptorIndex := 38, attributes := #[] }, { accessFlags := 0, nameIndex := 39, descriptorIndex := 38, attributes := #[] }, { accessFlags := 0, nameIndex := 30, descriptorIndex := 12, attributes := #[] }, { accessFlags := 0, nameIndex := 36, descriptorIndex := 18, attributes := #[] }])
  fields := #[{ name := "job", type := (.object "com/example/apportion/apportion/GridJob"), accessFlags := 16, slot := 0, constantValue := 0 }, { name := "priority", type := .long, accessFlags := 16, slot := 1, constantValue := 0 }, { name := "left", type := (.object "com/example/apportion/apportion/JobsByStart$Node"), accessFlags := 0, slot := 2, constantValue := 0 }, { name := "right", type := (.object "com/example/apportion/apportion/JobsByStart$Node"), accessFlags := 0, slot := 3, constantValue := 0 }, { name := "latest", type := (.object "com/example/apportion/apportion/GridJob"), accessFlags := 0, slot := 4, constantValue := 0 }, { name := "lastEnd", type := .long, accessFlags := 0, slot := 5, constantValue := 0 }]
  methods := #[k6m0]
  instanceTypes := #[(.object "com/example/apportion/apportion/GridJob"), .long, (.object "com/example/apportion/apportion/JobsByStart$Node"), (.object "com/example/apportion/apportion/JobsByStart$Node"), (.object "com/example/apportion/apportion/GridJob"), .long]
  staticTypes := #[]
  resolved := Array.replicate 50 none
  statics := none }

def pool7 : Array CpInfo := pool [(2, .class_ 4), (1, u "java/lang/Object"), (3, .class_ 10), (1, u "com/example/apportion/apportion/SplitMix64"), (0, u "state"), (0, u "J"), (4, u "mix"), (0, u "(J)J"), (0, .long 13787848793156543929), (1, .long 10723151780598845931), (16, u "GAMMA")] 10

def k7c0 : Code := { maxStack := 5, maxLocals := 2, code := prog_169_method_4_code, exceptionTable := #[], attributes := #[] }
def k7m0 : Method := { name := "mix", desc := "(J)J", sig := { parameters := [.long], returnType := some .long }, accessFlags := 8, code := some k7c0 }
/-- com/example/apportion/apportion/SplitMix64 -/
def k7 : Class := { plain "com/example/apportion/apportion/SplitMix64" (some 0) with
  accessFlags := 48
  interfaces := #[]
  cf := some (fileOf pool7 8 #[] #[{ accessFlags := 8, nameIndex := 17, descriptorIndex := 18, attributes := #[] }] 48 2 #[] #[{ accessFlags := 26, nameIndex := 38, descriptorIndex := 12, attributes := #[] }, { accessFlags := 2, nameIndex := 11, descriptorIndex := 12, attributes := #[] }])
  fields := #[{ name := "GAMMA", type := .long, accessFlags := 26, slot := 0, constantValue := 0 }, { name := "state", type := .long, accessFlags := 2, slot := 0, constantValue := 0 }]
  methods := #[k7m0]
  instanceTypes := #[.long]
  staticTypes := #[.long]
  resolved := Array.replicate 49 none
  statics := none }

def pool8 : Array CpInfo := pool [(1, .class_ 2), (0, u "java/lang/Math"), (1, .class_ 6), (1, u "java/lang/Object"), (0, u "<init>"), (0, u "()V"), (89, .class_ 100), (1, u "java/lang/Math$RandomNumberGeneratorHolder"), (20, u "(JJ)J"), (50, u "negativeZeroFloatBits"), (0, u "J"), (2, u "negativeZeroDoubleBits"), (21, u "max"), (46, u "$assertionsDisabled"), (0, u "Z"), (91, u "twoToTheDoubleScaleDown"), (0, u "D"), (4, u "twoToTheDoubleScaleUp"), (9, u "E"), (3, u "PI"), (2, u "TAU"), (2, u "DEGREES_TO_RADIANS"), (0, u "RADIANS_TO_DEGREES")] 94

def k8m0 : Method := { name := "<init>", desc := "()V", sig := { parameters := [], returnType := none }, accessFlags := 2, code := none }
def k8c1 : Code := { maxStack := 4, maxLocals := 4, code := jdk_29_method_66_code, exceptionTable := #[], attributes := #[] }
def k8m1 : Method := { name := "max", desc := "(JJ)J", sig := { parameters := [.long, .long], returnType := some .long }, accessFlags := 9, code := some k8c1 }
/-- java/lang/Math -/
def k8 : Class := { plain "java/lang/Math" (some 0) with
  accessFlags := 49
  interfaces := #[]
  cf := some (fileOf pool8 1 #[.nestMembers #[98]] #[{ accessFlags := 2, nameIndex := 7, descriptorIndex := 8, attributes := #[] }, { accessFlags := 9, nameIndex := 198, descriptorIndex := 121, attributes := #[] }] 49 4 #[] #[{ accessFlags := 25, nameIndex := 354, descriptorIndex := 339, attributes := #[] }, { accessFlags := 25, nameIndex := 358, descriptorIndex := 339, attributes := #[] }, { accessFlags := 25, nameIndex := 361, descriptorIndex := 339, attributes := #[] }, { accessFlags := 26, nameIndex := 364, descriptorIndex := 339, attributes := #[] }, { accessFlags := 26, nameIndex := 365, descriptorIndex := 339, attributes := #[] }, { accessFlags := 26, nameIndex := 172, descriptorIndex := 173, attributes := #[] }, { accessFlags := 26, nameIndex := 176, descriptorIndex := 173, attributes := #[] }, { accessFlags := 8, nameIndex := 344, descriptorIndex := 339, attributes := #[] }, { accessFlags := 8, nameIndex := 338, descriptorIndex := 339, attributes := #[] }, { accessFlags := 4120, nameIndex := 245, descriptorIndex := 246, attributes := #[] }])
  fields := #[{ name := "E", type := .double, accessFlags := 25, slot := 0, constantValue := 0 }, { name := "PI", type := .double, accessFlags := 25, slot := 1, constantValue := 0 }, { name := "TAU", type := .double, accessFlags := 25, slot := 2, constantValue := 0 }, { name := "DEGREES_TO_RADIANS", type := .double, accessFlags := 26, slot := 3, constantValue := 0 }, { name := "RADIANS_TO_DEGREES", type := .double, accessFlags := 26, slot := 4, constantValue := 0 }, { name := "negativeZeroFloatBits", type := .long, accessFlags := 26, slot := 5, constantValue := 0 }, { name := "negativeZeroDoubleBits", type := .long, accessFlags := 26, slot := 6, constantValue := 0 }, { name := "twoToTheDoubleScaleUp", type := .double, accessFlags := 8, slot := 7, constantValue := 0 }, { name := "twoToTheDoubleScaleDown", type := .double, accessFlags := 8, slot := 8, constantValue := 0 }, { name := "$assertionsDisabled", type := .boolean, accessFlags := 4120, slot := 9, constantValue := 0 }]
  methods := #[k8m0, k8m1]
  instanceTypes := #[]
  staticTypes := #[.double, .double, .double, .double, .double, .long, .long, .double, .double, .boolean]
  resolved := Array.replicate 460 none
  statics := none }

def pool9 : Array CpInfo := pool [(1, u "java/lang/Cloneable"), (0, .class_ 1), (0, u "java/lang/Object"), (0, .class_ 3)] 3

/-- java/lang/Cloneable -/
def k9 : Class := { plain "java/lang/Cloneable" (some 0) with
  accessFlags := 1537
  interfaces := #[]
  cf := some (fileOf pool9 2 #[] #[] 1537 4 #[] #[])
  fields := #[]
  methods := #[]
  instanceTypes := #[]
  staticTypes := #[]
  resolved := Array.replicate 8 none
  statics := none }

def pool10 : Array CpInfo := pool [(1, u "java/io/Serializable"), (0, .class_ 1), (0, u "java/lang/Object"), (0, .class_ 3)] 3

/-- java/io/Serializable -/
def k10 : Class := { plain "java/io/Serializable" (some 0) with
  accessFlags := 1537
  interfaces := #[]
  cf := some (fileOf pool10 2 #[] #[] 1537 4 #[] #[])
  fields := #[]
  methods := #[]
  instanceTypes := #[]
  staticTypes := #[]
  resolved := Array.replicate 8 none
  statics := none }

/-- the primitive byte -/
def k11 : Class := { plain "byte" none with kind := .primitive 'B', accessFlags := 0x411 }
/-- [B -/
def k12 : Class := { plain "[B" (some 0) with kind := .array 11 .byte, interfaces := #[9, 10], accessFlags := 1041 }

/-- the primitive int -/
def k13 : Class := { plain "int" none with kind := .primitive 'I', accessFlags := 0x411 }
/-- [I -/
def k14 : Class := { plain "[I" (some 0) with kind := .array 13 .int, interfaces := #[9, 10], accessFlags := 1041 }

def heap : Heap := #[]
def classes : Array Class := #[k0, k1, k2, k3, k4, k5, k6, k7, k8, k9, k10, k11, k12, k13, k14]
def interned : List (Array UInt16 × Addr) := []
def slotsUsed : Nat := 0
def theMethod : MethodId := ⟨1, 2⟩
def args0 : Array Value := #[.long 5, .long 3, .long 4, .long 7, .int 3]
def aboutOver (below : List Frame) : State where
  vm := { classes := classes, interned := interned.toArray }
  heap := heap
  slotsUsed := slotsUsed
  threads := #[{ frames := .invoking theMethod args0 :: below }]
def below0 : List Frame := [.native { method := ⟨0, 0⟩, args := #[] }]
def about1 : State := aboutOver below0
def p0 : Program := .bare "" "" ""
def e0 : Env := launch0.env 0 0 0
theorem w_frames : about1.frames = Frame.invoking theMethod args0 :: below0 := rfl
set_option maxRecDepth 65536 in
theorem w_args : argsFit about1.vm theMethod args0 = true := by decide +kernel
set_option maxRecDepth 65536 in
theorem w_heap : heapFits about1 = true := by decide +kernel
set_option maxRecDepth 65536 in
theorem w_runnable : about1.curStatus? = some .runnable := by decide +kernel
set_option maxRecDepth 65536 in
theorem w_alone : about1.alone = true := by decide +kernel
set_option maxRecDepth 65536 in
theorem w_named : about1.methodNamed? x = some theMethod := by decide +kernel
set_option maxRecDepth 65536 in
theorem w_hears : about1.hears theMethod below0 = true := by decide +kernel
set_option maxRecDepth 65536 in
theorem w_ripe : about1.ripe theMethod args0 below0 = true := by decide +kernel
theorem w_running : about1.status = .running := rfl
set_option maxRecDepth 65536 in
theorem w_room : about1.hasRoom e0.platform room_1 = true :=
  launch0.hasRoom_least _ room_1 (by decide +kernel) (by decide +kernel) (by decide +kernel) (by decide +kernel) (by decide +kernel) (by decide +kernel)
theorem allAtoms_all (ts : List Jvm.Cond) (a : Array Jvm.Value) (st : Jvm.State) : (allAtoms ts).before a st = ts.all (fun c => c.before a st) := by
  induction ts with
  | nil => rfl
  | cons c t ih =>
    show (Jvm.Cond.and c (allAtoms t)).before a st = _
    rw [Jvm.Cond.before_and, ih, List.all_cons]
def words1 : List Jvm.Cond := Jvm.Cond.code x code maxLocals ret :: tables_1
/-- a 'code' word, met by the world's own term for the bytes: nothing is compared byte by byte -/
theorem code_word {y : MethodName} {bytes : ByteArray} {mx : Nat} {rt : Option FieldType} {a : Array Value} {s : State} {m : MethodId} {meth : Method} {c : Code} (h1 : s.methodNamed? y = some m) (h2 : s.vm.method? m = some meth) (h3 : meth.code = some c) (h4 : c.code = bytes)
    (h5 : (c.maxLocals == mx && c.exceptionTable.isEmpty && decide (c.maxStack ≤ mostOperands) && decide (meth.sig.returnType = rt) && !meth.locks && decide (parseMethodDescriptor y.desc = some meth.sig)) = true) : (Jvm.Cond.code y bytes mx rt).before a s = true := by
  simp only [Bool.and_eq_true, beq_iff_eq, Bool.not_eq_true', decide_eq_true_eq] at h5
  obtain ⟨⟨⟨⟨⟨g1, g2⟩, g3⟩, g4⟩, g5⟩, g6⟩ := h5
  simp [Cond.before, Cond.holds, Cond.value, h1, h2, h3, h4, g1, g2, g3, g4, g5, g6]
def isCode : Jvm.Cond → Bool
  | .code _ _ _ _ => true
  | _ => false
theorem all_split {L : List Jvm.Cond} {P : Jvm.Cond → Bool} (h1 : L.all (fun c => isCode c || P c) = true) (h2 : ∀ c ∈ L.filter isCode, P c = true) : L.all P = true := by
  refine List.all_eq_true.mpr fun c hc => ?_
  have h := List.all_eq_true.mp h1 c hc
  rcases Bool.eq_false_or_eq_true (isCode c) with hi | hi
  · exact h2 c (List.mem_filter.mpr ⟨hc, hi⟩)
  · simpa [hi] using h
set_option maxRecDepth 65536 in
theorem w_c0 : (Jvm.Cond.code x code maxLocals ret).before args0 about1 = true := code_word (m := ⟨1, 2⟩) (meth := k1m2) (c := k1c2) (by decide +kernel) rfl rfl rfl (by decide +kernel)
set_option maxRecDepth 65536 in
theorem w_c1 : (Jvm.Cond.code ({ cls := "com/example/apportion/apportion/JobsByStart", name := "<init>", desc := "()V" } : Jvm.MethodName) prog_103_method_1_code (1 : Nat) (Option.none : Option Jvm.ClassFile.FieldType)).before args0 about1 = true := code_word (m := ⟨2, 0⟩) (meth := k2m0) (c := k2c0) (by decide +kernel) rfl rfl rfl (by decide +kernel)
set_option maxRecDepth 65536 in
theorem w_c2 : (Jvm.Cond.code ({ cls := "java/lang/Object", name := "<init>", desc := "()V" } : Jvm.MethodName) object_method_1_code (1 : Nat) (Option.none : Option Jvm.ClassFile.FieldType)).before args0 about1 = true := code_word (m := ⟨0, 0⟩) (meth := k0m0) (c := k0c0) (by decide +kernel) rfl rfl rfl (by decide +kernel)
set_option maxRecDepth 65536 in
theorem w_c3 : (Jvm.Cond.code ({ cls := "com/example/apportion/apportion/Request", name := "<init>", desc := "(Ljava/lang/String;JJJJLjava/math/BigInteger;)V" } : Jvm.MethodName) prog_148_method_1_code (11 : Nat) (Option.none : Option Jvm.ClassFile.FieldType)).before args0 about1 = true := code_word (m := ⟨4, 0⟩) (meth := k4m0) (c := k4c0) (by decide +kernel) rfl rfl rfl (by decide +kernel)
set_option maxRecDepth 65536 in
theorem w_c4 : (Jvm.Cond.code ({ cls := "com/example/apportion/apportion/Request", name := "<init>", desc := "(Ljava/lang/String;JJJJLjava/math/BigInteger;Z)V" } : Jvm.MethodName) prog_148_method_2_code (12 : Nat) (Option.none : Option Jvm.ClassFile.FieldType)).before args0 about1 = true := code_word (m := ⟨4, 1⟩) (meth := k4m1) (c := k4c1) (by decide +kernel) rfl rfl rfl (by decide +kernel)
set_option maxRecDepth 65536 in
theorem w_c5 : (Jvm.Cond.code ({ cls := "java/lang/Record", name := "<init>", desc := "()V" } : Jvm.MethodName) jdk_30_method_1_code (1 : Nat) (Option.none : Option Jvm.ClassFile.FieldType)).before args0 about1 = true := code_word (m := ⟨3, 0⟩) (meth := k3m0) (c := k3c0) (by decide +kernel) rfl rfl rfl (by decide +kernel)
set_option maxRecDepth 65536 in
theorem w_c6 : (Jvm.Cond.code ({ cls := "com/example/apportion/apportion/GridJob", name := "<init>", desc := "(JLcom/example/apportion/apportion/Request;I)V" } : Jvm.MethodName) prog_79_method_1_code (5 : Nat) (Option.none : Option Jvm.ClassFile.FieldType)).before args0 about1 = true := code_word (m := ⟨5, 0⟩) (meth := k5m0) (c := k5c0) (by decide +kernel) rfl rfl rfl (by decide +kernel)
set_option maxRecDepth 65536 in
theorem w_c7 : (Jvm.Cond.code ({ cls := "com/example/apportion/apportion/Request", name := "id", desc := "()Ljava/lang/String;" } : Jvm.MethodName) prog_148_method_15_code (1 : Nat) (Option.some (Jvm.ClassFile.FieldType.object "java/lang/String"))).before args0 about1 = true := code_word (m := ⟨4, 2⟩) (meth := k4m2) (c := k4c2) (by decide +kernel) rfl rfl rfl (by decide +kernel)
set_option maxRecDepth 65536 in
theorem w_c8 : (Jvm.Cond.code ({ cls := "com/example/apportion/apportion/Request", name := "arrival", desc := "()J" } : Jvm.MethodName) prog_148_method_16_code (1 : Nat) (Option.some Jvm.ClassFile.FieldType.long)).before args0 about1 = true := code_word (m := ⟨4, 3⟩) (meth := k4m3) (c := k4c3) (by decide +kernel) rfl rfl rfl (by decide +kernel)
set_option maxRecDepth 65536 in
theorem w_c9 : (Jvm.Cond.code ({ cls := "com/example/apportion/apportion/Request", name := "ready", desc := "()J" } : Jvm.MethodName) prog_148_method_17_code (1 : Nat) (Option.some Jvm.ClassFile.FieldType.long)).before args0 about1 = true := code_word (m := ⟨4, 4⟩) (meth := k4m4) (c := k4c4) (by decide +kernel) rfl rfl rfl (by decide +kernel)
set_option maxRecDepth 65536 in
theorem w_c10 : (Jvm.Cond.code ({ cls := "com/example/apportion/apportion/Request", name := "length", desc := "()J" } : Jvm.MethodName) prog_148_method_18_code (1 : Nat) (Option.some Jvm.ClassFile.FieldType.long)).before args0 about1 = true := code_word (m := ⟨4, 5⟩) (meth := k4m5) (c := k4c5) (by decide +kernel) rfl rfl rfl (by decide +kernel)
set_option maxRecDepth 65536 in
theorem w_c11 : (Jvm.Cond.code ({ cls := "com/example/apportion/apportion/Request", name := "deadline", desc := "()J" } : Jvm.MethodName) prog_148_method_19_code (1 : Nat) (Option.some Jvm.ClassFile.FieldType.long)).before args0 about1 = true := code_word (m := ⟨4, 6⟩) (meth := k4m6) (c := k4c6) (by decide +kernel) rfl rfl rfl (by decide +kernel)
set_option maxRecDepth 65536 in
theorem w_c12 : (Jvm.Cond.code ({ cls := "com/example/apportion/apportion/Request", name := "hasDeadline", desc := "()Z" } : Jvm.MethodName) prog_148_method_21_code (1 : Nat) (Option.some Jvm.ClassFile.FieldType.boolean)).before args0 about1 = true := code_word (m := ⟨4, 7⟩) (meth := k4m7) (c := k4c7) (by decide +kernel) rfl rfl rfl (by decide +kernel)
set_option maxRecDepth 65536 in
theorem w_c13 : (Jvm.Cond.code ({ cls := "com/example/apportion/apportion/JobsByStart", name := "add", desc := "(Lcom/example/apportion/apportion/GridJob;)V" } : Jvm.MethodName) prog_103_method_5_code (2 : Nat) (Option.none : Option Jvm.ClassFile.FieldType)).before args0 about1 = true := code_word (m := ⟨2, 2⟩) (meth := k2m2) (c := k2c2) (by decide +kernel) rfl rfl rfl (by decide +kernel)
set_option maxRecDepth 65536 in
theorem w_c14 : (Jvm.Cond.code ({ cls := "com/example/apportion/apportion/JobsByStart$Node", name := "<init>", desc := "(Lcom/example/apportion/apportion/GridJob;)V" } : Jvm.MethodName) prog_105_method_1_code (2 : Nat) (Option.none : Option Jvm.ClassFile.FieldType)).before args0 about1 = true := code_word (m := ⟨6, 0⟩) (meth := k6m0) (c := k6c0) (by decide +kernel) rfl rfl rfl (by decide +kernel)
set_option maxRecDepth 65536 in
theorem w_c15 : (Jvm.Cond.code ({ cls := "com/example/apportion/apportion/SplitMix64", name := "mix", desc := "(J)J" } : Jvm.MethodName) prog_169_method_4_code (2 : Nat) (Option.some Jvm.ClassFile.FieldType.long)).before args0 about1 = true := code_word (m := ⟨7, 0⟩) (meth := k7m0) (c := k7c0) (by decide +kernel) rfl rfl rfl (by decide +kernel)
set_option maxRecDepth 65536 in
theorem w_c16 : (Jvm.Cond.code ({ cls := "com/example/apportion/apportion/JobsByStart", name := "insert", desc := "(Lcom/example/apportion/apportion/JobsByStart$Node;Lcom/example/apportion/apportion/JobsByStart$Node;)Lcom/example/apportion/apportion/JobsByStart$Node;" } : Jvm.MethodName) prog_103_method_12_code (3 : Nat) (Option.some (Jvm.ClassFile.FieldType.object "com/example/apportion/apportion/JobsByStart$Node"))).before args0 about1 = true := code_word (m := ⟨2, 5⟩) (meth := k2m5) (c := k2c5) (by decide +kernel) rfl rfl rfl (by decide +kernel)
set_option maxRecDepth 65536 in
theorem w_c17 : (Jvm.Cond.code ({ cls := "com/example/apportion/apportion/JobsByStart", name := "precedes", desc := "(Lcom/example/apportion/apportion/GridJob;Lcom/example/apportion/apportion/GridJob;)Z" } : Jvm.MethodName) prog_103_method_11_code (2 : Nat) (Option.some Jvm.ClassFile.FieldType.boolean)).before args0 about1 = true := code_word (m := ⟨2, 4⟩) (meth := k2m4) (c := k2c4) (by decide +kernel) rfl rfl rfl (by decide +kernel)
set_option maxRecDepth 65536 in
theorem w_c18 : (Jvm.Cond.code ({ cls := "com/example/apportion/apportion/JobsByStart", name := "pull", desc := "(Lcom/example/apportion/apportion/JobsByStart$Node;)V" } : Jvm.MethodName) prog_103_method_15_code (4 : Nat) (Option.none : Option Jvm.ClassFile.FieldType)).before args0 about1 = true := code_word (m := ⟨2, 8⟩) (meth := k2m8) (c := k2c8) (by decide +kernel) rfl rfl rfl (by decide +kernel)
set_option maxRecDepth 65536 in
theorem w_c19 : (Jvm.Cond.code ({ cls := "com/example/apportion/apportion/GridJob", name := "deadlineLaterThan", desc := "(Lcom/example/apportion/apportion/GridJob;)Z" } : Jvm.MethodName) prog_79_method_3_code (2 : Nat) (Option.some Jvm.ClassFile.FieldType.boolean)).before args0 about1 = true := code_word (m := ⟨5, 1⟩) (meth := k5m1) (c := k5c1) (by decide +kernel) rfl rfl rfl (by decide +kernel)
set_option maxRecDepth 65536 in
theorem w_c20 : (Jvm.Cond.code ({ cls := "java/lang/Math", name := "max", desc := "(JJ)J" } : Jvm.MethodName) jdk_29_method_66_code (4 : Nat) (Option.some Jvm.ClassFile.FieldType.long)).before args0 about1 = true := code_word (m := ⟨8, 1⟩) (meth := k8m1) (c := k8c1) (by decide +kernel) rfl rfl rfl (by decide +kernel)
set_option maxRecDepth 65536 in
theorem w_c21 : (Jvm.Cond.code ({ cls := "com/example/apportion/apportion/JobsByStartFirstPinLaw", name := "before", desc := "(Lcom/example/apportion/apportion/GridJob;Lcom/example/apportion/apportion/GridJob;)Z" } : Jvm.MethodName) method_2_code (2 : Nat) (Option.some Jvm.ClassFile.FieldType.boolean)).before args0 about1 = true := code_word (m := ⟨1, 1⟩) (meth := k1m1) (c := k1c1) (by decide +kernel) rfl rfl rfl (by decide +kernel)
set_option maxRecDepth 65536 in
theorem w_c22 : (Jvm.Cond.code ({ cls := "com/example/apportion/apportion/JobsByStart", name := "first", desc := "()Lcom/example/apportion/apportion/GridJob;" } : Jvm.MethodName) prog_103_method_3_code (2 : Nat) (Option.some (Jvm.ClassFile.FieldType.object "com/example/apportion/apportion/GridJob"))).before args0 about1 = true := code_word (m := ⟨2, 1⟩) (meth := k2m1) (c := k2c1) (by decide +kernel) rfl rfl rfl (by decide +kernel)
set_option maxRecDepth 65536 in
theorem w_c23 : (Jvm.Cond.code ({ cls := "com/example/apportion/apportion/JobsByStart", name := "remove", desc := "(Lcom/example/apportion/apportion/GridJob;)V" } : Jvm.MethodName) prog_103_method_6_code (2 : Nat) (Option.none : Option Jvm.ClassFile.FieldType)).before args0 about1 = true := code_word (m := ⟨2, 3⟩) (meth := k2m3) (c := k2c3) (by decide +kernel) rfl rfl rfl (by decide +kernel)
set_option maxRecDepth 65536 in
theorem w_c24 : (Jvm.Cond.code ({ cls := "com/example/apportion/apportion/JobsByStart", name := "without", desc := "(Lcom/example/apportion/apportion/JobsByStart$Node;Lcom/example/apportion/apportion/GridJob;)Lcom/example/apportion/apportion/JobsByStart$Node;" } : Jvm.MethodName) prog_103_method_13_code (2 : Nat) (Option.some (Jvm.ClassFile.FieldType.object "com/example/apportion/apportion/JobsByStart$Node"))).before args0 about1 = true := code_word (m := ⟨2, 6⟩) (meth := k2m6) (c := k2c6) (by decide +kernel) rfl rfl rfl (by decide +kernel)
set_option maxRecDepth 65536 in
theorem w_c25 : (Jvm.Cond.code ({ cls := "com/example/apportion/apportion/JobsByStart", name := "join", desc := "(Lcom/example/apportion/apportion/JobsByStart$Node;Lcom/example/apportion/apportion/JobsByStart$Node;)Lcom/example/apportion/apportion/JobsByStart$Node;" } : Jvm.MethodName) prog_103_method_14_code (2 : Nat) (Option.some (Jvm.ClassFile.FieldType.object "com/example/apportion/apportion/JobsByStart$Node"))).before args0 about1 = true := code_word (m := ⟨2, 7⟩) (meth := k2m7) (c := k2c7) (by decide +kernel) rfl rfl rfl (by decide +kernel)
def codes1 : List Jvm.Cond := [Jvm.Cond.code x code maxLocals ret, Jvm.Cond.code ({ cls := "com/example/apportion/apportion/JobsByStart", name := "<init>", desc := "()V" } : Jvm.MethodName) prog_103_method_1_code (1 : Nat) (Option.none : Option Jvm.ClassFile.FieldType), Jvm.Cond.code ({ cls := "java/lang/Object", name := "<init>", desc := "()V" } : Jvm.MethodName) object_method_1_code (1 : Nat) (Option.none : Option Jvm.ClassFile.FieldType), Jvm.Cond.code ({ cls := "com/example/apportion/apportion/Request", name := "<init>", desc := "(Ljava/lang/String;JJJJLjava/math/BigInteger;)V" } : Jvm.MethodName) prog_148_method_1_code (11 : Nat) (Option.none : Option Jvm.ClassFile.FieldType), Jvm.Cond.code ({ cls := "com/example/apportion/apportion/Request", name := "<init>", desc := "(Ljava/lang/String;JJJJLjava/math/BigInteger;Z)V" } : Jvm.MethodName) prog_148_method_2_code (12 : Nat) (Option.none : Option Jvm.ClassFile.FieldType), Jvm.Cond.code ({ cls := "java/lang/Record", name := "<init>", desc := "()V" } : Jvm.MethodName) jdk_30_method_1_code (1 : Nat) (Option.none : Option Jvm.ClassFile.FieldType), Jvm.Cond.code ({ cls := "com/example/apportion/apportion/GridJob", name := "<init>", desc := "(JLcom/example/apportion/apportion/Request;I)V" } : Jvm.MethodName) prog_79_method_1_code (5 : Nat) (Option.none : Option Jvm.ClassFile.FieldType), Jvm.Cond.code ({ cls := "com/example/apportion/apportion/Request", name := "id", desc := "()Ljava/lang/String;" } : Jvm.MethodName) prog_148_method_15_code (1 : Nat) (Option.some (Jvm.ClassFile.FieldType.object "java/lang/String")), Jvm.Cond.code ({ cls := "com/example/apportion/apportion/Request", name := "arrival", desc := "()J" } : Jvm.MethodName) prog_148_method_16_code (1 : Nat) (Option.some Jvm.ClassFile.FieldType.long), Jvm.Cond.code ({ cls := "com/example/apportion/apportion/Request", name := "ready", desc := "()J" } : Jvm.MethodName) prog_148_method_17_code (1 : Nat) (Option.some Jvm.ClassFile.FieldType.long), Jvm.Cond.code ({ cls := "com/example/apportion/apportion/Request", name := "length", desc := "()J" } : Jvm.MethodName) prog_148_method_18_code (1 : Nat) (Option.some Jvm.ClassFile.FieldType.long), Jvm.Cond.code ({ cls := "com/example/apportion/apportion/Request", name := "deadline", desc := "()J" } : Jvm.MethodName) prog_148_method_19_code (1 : Nat) (Option.some Jvm.ClassFile.FieldType.long), Jvm.Cond.code ({ cls := "com/example/apportion/apportion/Request", name := "hasDeadline", desc := "()Z" } : Jvm.MethodName) prog_148_method_21_code (1 : Nat) (Option.some Jvm.ClassFile.FieldType.boolean), Jvm.Cond.code ({ cls := "com/example/apportion/apportion/JobsByStart", name := "add", desc := "(Lcom/example/apportion/apportion/GridJob;)V" } : Jvm.MethodName) prog_103_method_5_code (2 : Nat) (Option.none : Option Jvm.ClassFile.FieldType), Jvm.Cond.code ({ cls := "com/example/apportion/apportion/JobsByStart$Node", name := "<init>", desc := "(Lcom/example/apportion/apportion/GridJob;)V" } : Jvm.MethodName) prog_105_method_1_code (2 : Nat) (Option.none : Option Jvm.ClassFile.FieldType), Jvm.Cond.code ({ cls := "com/example/apportion/apportion/SplitMix64", name := "mix", desc := "(J)J" } : Jvm.MethodName) prog_169_method_4_code (2 : Nat) (Option.some Jvm.ClassFile.FieldType.long), Jvm.Cond.code ({ cls := "com/example/apportion/apportion/JobsByStart", name := "insert", desc := "(Lcom/example/apportion/apportion/JobsByStart$Node;Lcom/example/apportion/apportion/JobsByStart$Node;)Lcom/example/apportion/apportion/JobsByStart$Node;" } : Jvm.MethodName) prog_103_method_12_code (3 : Nat) (Option.some (Jvm.ClassFile.FieldType.object "com/example/apportion/apportion/JobsByStart$Node")), Jvm.Cond.code ({ cls := "com/example/apportion/apportion/JobsByStart", name := "precedes", desc := "(Lcom/example/apportion/apportion/GridJob;Lcom/example/apportion/apportion/GridJob;)Z" } : Jvm.MethodName) prog_103_method_11_code (2 : Nat) (Option.some Jvm.ClassFile.FieldType.boolean), Jvm.Cond.code ({ cls := "com/example/apportion/apportion/JobsByStart", name := "pull", desc := "(Lcom/example/apportion/apportion/JobsByStart$Node;)V" } : Jvm.MethodName) prog_103_method_15_code (4 : Nat) (Option.none : Option Jvm.ClassFile.FieldType), Jvm.Cond.code ({ cls := "com/example/apportion/apportion/GridJob", name := "deadlineLaterThan", desc := "(Lcom/example/apportion/apportion/GridJob;)Z" } : Jvm.MethodName) prog_79_method_3_code (2 : Nat) (Option.some Jvm.ClassFile.FieldType.boolean), Jvm.Cond.code ({ cls := "java/lang/Math", name := "max", desc := "(JJ)J" } : Jvm.MethodName) jdk_29_method_66_code (4 : Nat) (Option.some Jvm.ClassFile.FieldType.long), Jvm.Cond.code ({ cls := "com/example/apportion/apportion/JobsByStartFirstPinLaw", name := "before", desc := "(Lcom/example/apportion/apportion/GridJob;Lcom/example/apportion/apportion/GridJob;)Z" } : Jvm.MethodName) method_2_code (2 : Nat) (Option.some Jvm.ClassFile.FieldType.boolean), Jvm.Cond.code ({ cls := "com/example/apportion/apportion/JobsByStart", name := "first", desc := "()Lcom/example/apportion/apportion/GridJob;" } : Jvm.MethodName) prog_103_method_3_code (2 : Nat) (Option.some (Jvm.ClassFile.FieldType.object "com/example/apportion/apportion/GridJob")), Jvm.Cond.code ({ cls := "com/example/apportion/apportion/JobsByStart", name := "remove", desc := "(Lcom/example/apportion/apportion/GridJob;)V" } : Jvm.MethodName) prog_103_method_6_code (2 : Nat) (Option.none : Option Jvm.ClassFile.FieldType), Jvm.Cond.code ({ cls := "com/example/apportion/apportion/JobsByStart", name := "without", desc := "(Lcom/example/apportion/apportion/JobsByStart$Node;Lcom/example/apportion/apportion/GridJob;)Lcom/example/apportion/apportion/JobsByStart$Node;" } : Jvm.MethodName) prog_103_method_13_code (2 : Nat) (Option.some (Jvm.ClassFile.FieldType.object "com/example/apportion/apportion/JobsByStart$Node")), Jvm.Cond.code ({ cls := "com/example/apportion/apportion/JobsByStart", name := "join", desc := "(Lcom/example/apportion/apportion/JobsByStart$Node;Lcom/example/apportion/apportion/JobsByStart$Node;)Lcom/example/apportion/apportion/JobsByStart$Node;" } : Jvm.MethodName) prog_103_method_14_code (2 : Nat) (Option.some (Jvm.ClassFile.FieldType.object "com/example/apportion/apportion/JobsByStart$Node"))]
set_option maxRecDepth 65536 in
theorem codes_eq : words1.filter isCode = codes1 := rfl
theorem w_codes : ∀ c ∈ words1.filter isCode, c.before args0 about1 = true := by
  rw [codes_eq]
  intro c hc
  simp only [codes1, List.mem_cons, List.not_mem_nil, or_false] at hc
  rcases hc with rfl | rfl | rfl | rfl | rfl | rfl | rfl | rfl | rfl | rfl | rfl | rfl | rfl | rfl | rfl | rfl | rfl | rfl | rfl | rfl | rfl | rfl | rfl | rfl | rfl | rfl
  · exact w_c0
  · exact w_c1
  · exact w_c2
  · exact w_c3
  · exact w_c4
  · exact w_c5
  · exact w_c6
  · exact w_c7
  · exact w_c8
  · exact w_c9
  · exact w_c10
  · exact w_c11
  · exact w_c12
  · exact w_c13
  · exact w_c14
  · exact w_c15
  · exact w_c16
  · exact w_c17
  · exact w_c18
  · exact w_c19
  · exact w_c20
  · exact w_c21
  · exact w_c22
  · exact w_c23
  · exact w_c24
  · exact w_c25
set_option maxRecDepth 65536 in
theorem w_t1 : (words1.take 24).all (fun c => isCode c || c.before args0 about1) = true := by decide +kernel
set_option maxRecDepth 65536 in
theorem w_t2 : ((words1.drop 24).take 24).all (fun c => isCode c || c.before args0 about1) = true := by decide +kernel
set_option maxRecDepth 65536 in
theorem w_t3 : (((words1.drop 24).drop 24).take 24).all (fun c => isCode c || c.before args0 about1) = true := by decide +kernel
set_option maxRecDepth 65536 in
theorem w_t4 : ((((words1.drop 24).drop 24).drop 24).take 24).all (fun c => isCode c || c.before args0 about1) = true := by decide +kernel
set_option maxRecDepth 65536 in
theorem w_t5 : (((((words1.drop 24).drop 24).drop 24).drop 24).take 24).all (fun c => isCode c || c.before args0 about1) = true := by decide +kernel
set_option maxRecDepth 65536 in
theorem w_t6 : ((((((words1.drop 24).drop 24).drop 24).drop 24).drop 24).take 24).all (fun c => isCode c || c.before args0 about1) = true := by decide +kernel
set_option maxRecDepth 65536 in
theorem w_t7 : (((((((words1.drop 24).drop 24).drop 24).drop 24).drop 24).drop 24).take 24).all (fun c => isCode c || c.before args0 about1) = true := by decide +kernel
set_option maxRecDepth 65536 in
theorem w_t8 : (((((((words1.drop 24).drop 24).drop 24).drop 24).drop 24).drop 24).drop 24).all (fun c => isCode c || c.before args0 about1) = true := by decide +kernel
theorem w_tables : (allAtoms (Jvm.Cond.code x code maxLocals ret :: tables_1)).before args0 about1 = true := by
  rw [allAtoms_all]
  show words1.all (fun c => c.before args0 about1) = true
  refine all_split ?_ w_codes
  rw [← List.take_append_drop 24 words1, List.all_append, w_t1, ← List.take_append_drop 24 (words1.drop 24), List.all_append, w_t2, ← List.take_append_drop 24 ((words1.drop 24).drop 24), List.all_append, w_t3, ← List.take_append_drop 24 (((words1.drop 24).drop 24).drop 24), List.all_append, w_t4, ← List.take_append_drop 24 ((((words1.drop 24).drop 24).drop 24).drop 24), List.all_append, w_t5, ← List.take_append_drop 24 (((((words1.drop 24).drop 24).drop 24).drop 24).drop 24), List.all_append, w_t6, ← List.take_append_drop 24 ((((((words1.drop 24).drop 24).drop 24).drop 24).drop 24).drop 24), List.all_append, w_t7, w_t8]
  rfl
set_option maxRecDepth 65536 in
theorem w_case : (Jvm.Cond.and given_1 narrow_1).before args0 about1 = true := by decide +kernel
theorem w_applies : (headSpec (Jvm.Cond.code x code maxLocals ret :: tables_1) room_1).applies x e0.platform about1 = true :=
  (Spec.applies_iff w_frames).mpr ⟨w_running, w_runnable, w_alone, w_named, w_hears, w_ripe, w_room, w_tables⟩
theorem atStart : AtStart classFile x code maxLocals ret World_1 tables_1 room_1 Calls_1 rest_1 Pre_1 launch0 p0 e0 about1 theMethod args0 below0 :=
  ⟨lists_1, trivial, launch0.admits_env _ _ _, launch0.least_env, fairChoices_fair.cas, fairChoices_fair.clock, w_frames, w_args, w_heap, w_applies, trivial, trivial, w_case⟩
end start1
theorem witness_1 : WitnessClaimed_1 := ⟨start1.p0, start1.e0, start1.about1, start1.theMethod, start1.args0, start1.below0, start1.atStart⟩
end Jvm.Pilot.@@N@@

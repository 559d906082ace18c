import JvmDerived
import JvmDerived.Pilot.@@N@@Statement
import JvmDerived.Pilot.@@N@@Code
set_option linter.unusedVariables false
set_option linter.unusedSimpArgs false
set_option maxRecDepth 65536
set_option maxHeartbeats 2000000

namespace Jvm.OwnWP
open Sem ClassFile Op Lib Jvm.Stand Jvm.Free Jvm.LawKit Jvm.RoadKit
/-- Java's shifts and its comparison of longs -/
def ushr (x y : Int32) : Int32 := (x.toUInt32 >>> (y &&& 31).toUInt32).toInt32
def ushrL (x : Int64) (y : Int32) : Int64 := (x.toUInt64 >>> (y &&& 0x3f).toInt64.toUInt64).toInt64
def cmpL (x y : Int64) : Int32 := if x > y then 1 else if x = y then 0 else -1
/-! A body: its class, its name, bytes, max_locals, what it returns, its room. -/
abbrev Bod : Type := String × String × ByteArray × Nat × Option FieldType × Room
abbrev Bod.own (B : Bod) : String := B.1
abbrev Bod.mname (B : Bod) : String := B.2.1
abbrev Bod.bytes (B : Bod) : ByteArray := B.2.2.1
abbrev Bod.maxL (B : Bod) : Nat := B.2.2.2.1
abbrev Bod.ret (B : Bod) : Option FieldType := B.2.2.2.2.1
abbrev Bod.room (B : Bod) : Room := B.2.2.2.2.2
def Ctx (p : Program) (s : State) (m : MethodId) (meth : Method) (c : Code) (Z : State) (B : Bod) : Prop :=
  p.tables.exec = Jvm.exec ∧ Z.Warmed39 s.vm ∧ s.vm.findClass B.own = some m.cls ∧ c.code = B.bytes ∧ c.maxLocals = B.maxL ∧ meth.sig.returnType = B.ret ∧ meth.locks = false ∧ meth.name = B.mname
/-- From pc, with these locals and this stack, over the heap h, the body returns, and Q says of what it returns and of the heap. -/
def WP (l : Launch) (B : Bod) (Z : State) (n0 : Nat) (Q : Option Value → Heap → Prop) (h : Heap) (cs sl pc : Nat) (ls : Array Slot) (st : List Value) : Prop :=
  ∀ (p : Program) (e : Env) (s : State) (m : MethodId) (args : Array Value) (below : List Frame) (meth : Method) (c : Code) (T : State) (L : List Loc),
    Ctx p s m meth c Z B → Stand p l e B.room s m args below meth c T L cs sl → T.heap = h → Fr n0 L → n0 ≤ h.size →
    ∃ (U : State) (v : Option Value) (L' : List Loc), Steps p.tables e below (T.setTop (mkF m pc ls st)) U ∧ U.status = .running ∧ Ended U below (.returned v) ∧ Q v U.heap ∧ Fr n0 L' ∧ n0 ≤ U.heap.size ∧ FrameEnd s (.returned v) U L' B.room.cells B.room.slots
/-- The contract of a body: called with the arguments as over the heap h0. -/
def OMet (l : Launch) (y : MethodName) (B : Bod) (Z : State) (n0 : Nat) (as : Array Value) (h0 : Heap) (Q : Option Value → Heap → Prop) : Prop :=
  n0 ≤ h0.size → ∀ ws, MetFree l y (head1 (Cond.code y B.bytes B.maxL B.ret :: ws) B.room) (fun a U => a = as ∧ Z.Warmed39 U.vm ∧ U.heap = h0) (fun _ _ _ _ _ => True) (fun _ U o U' => ∃ v L, o = .returned v ∧ (Q v U'.heap ∧ Fr n0 L ∧ n0 ≤ U'.heap.size) ∧ FrameEnd U o U' L B.room.cells B.room.slots)
section W
variable {l : Launch} {B : Bod} {Z : State} {n0 : Nat} {Q : Option Value → Heap → Prop} {h : Heap} {cs sl pc pc' : Nat} {ls ls' : Array Slot} {st rest : List Value} {a0 : Array Value}
theorem OMet.of_wp {y : MethodName} {as : Array Value} {ls0 : Array Slot} (hpl : plainFor y = true) (h1 : y.cls = B.own) (h2 : y.name = B.mname) (hef : ∀ m, entryFrame m as B.maxL = mkF m 0 ls0 []) (H : WP l B Z n0 Q h 0 0 0 ls0 []) : OMet l y B Z n0 as h Q := by
  intro hn ws
  refine MetFree.of_bodySF hpl hisR ?_
  intro p e s m args below meth c s₁ Bd hml0 hP hK
  obtain ⟨rfl, hZ, hh⟩ := hP
  have hnm := (name_of_methodNamed Bd.named Bd.method).1
  have hown : s.vm.findClass y.cls = some m.cls := findClass_of_methodNamed Bd.named
  have X0 := Stand.of_body Bd
  have e0 : s₁.heap = h := by rw [← hh, Bd.state]; rfl
  obtain ⟨U, v, L', a1, a2, a3, a4, a5, a6, a7⟩ := H p e s m args below meth c s₁ [] ⟨Bd.exec, hZ, h1 ▸ hown, Bd.bytes, hml0, Bd.returns, Bd.notSynchronized, hnm.trans h2⟩ X0 e0 (Fr.nil n0) hn
  exact ⟨U, _, castTop (hef m) a1, a2, a3, v, L', rfl, ⟨a4, a5, a6⟩, a7⟩
theorem WP.mono {Q' : Option Value → Heap → Prop} (H : WP l B Z n0 Q' h cs sl pc ls st) (hq : ∀ v h', Q' v h' → Q v h') : WP l B Z n0 Q h cs sl pc ls st := by
  intro p e s m args below meth c T L C X hT N hn
  obtain ⟨U, v, L', a1, a2, a3, a4, r⟩ := H p e s m args below meth c T L C X hT N hn
  exact ⟨U, v, L', a1, a2, a3, hq _ _ a4, r⟩
/-- a plain step: the state stays, the frame moves -/
theorem WP.step {pc' : Nat} {ls' : Array Slot} {st' : List Value}
    (S : ∀ (p : Program) (e : Env) (s : State) (m : MethodId) (args : Array Value) (below : List Frame) (meth : Method) (c : Code) (T : State) (L : List Loc), Ctx p s m meth c Z B → Stand p l e B.room s m args below meth c T L cs sl → T.heap = h → ∀ target, Steps p.tables e below (T.setTop (mkF m pc' ls' st')) target → Steps p.tables e below (T.setTop (mkF m pc ls st)) target)
    (H : WP l B Z n0 Q h cs sl pc' ls' st') : WP l B Z n0 Q h cs sl pc ls st := by
  intro p e s m args below meth c T L C X hT N hn
  obtain ⟨U, v, L', a1, r⟩ := H p e s m args below meth c T L C X hT N hn
  exact ⟨U, v, L', S p e s m args below meth c T L C X hT _ a1, r⟩
/-- a step to another state -/
theorem WP.stepT {pc' cs' sl' : Nat} {ls' : Array Slot} {st' : List Value} {P : Heap → Prop}
    (S : ∀ (p : Program) (e : Env) (s : State) (m : MethodId) (args : Array Value) (below : List Frame) (meth : Method) (c : Code) (T : State) (L : List Loc), Ctx p s m meth c Z B → Stand p l e B.room s m args below meth c T L cs sl → T.heap = h → Fr n0 L → n0 ≤ h.size →
      ∃ (T' : State) (h' : Heap) (L' : List Loc), Stand p l e B.room s m args below meth c T' L' cs' sl' ∧ T'.heap = h' ∧ Fr n0 L' ∧ n0 ≤ h'.size ∧ P h' ∧ ∀ target, Steps p.tables e below (T'.setTop (mkF m pc' ls' st')) target → Steps p.tables e below (T.setTop (mkF m pc ls st)) target)
    (H : ∀ h', P h' → WP l B Z n0 Q h' cs' sl' pc' ls' st') : WP l B Z n0 Q h cs sl pc ls st := by
  intro p e s m args below meth c T L C X hT N hn
  obtain ⟨T', h', L1, X', e', N', n', hp, st⟩ := S p e s m args below meth c T L C X hT N hn
  obtain ⟨U, v, L', a1, r⟩ := H h' hp p e s m args below meth c T' L1 C X' e' N' n'
  exact ⟨U, v, L', st _ a1, r⟩
/-! loads, stores, constants -/
theorem WP.iloadN {k : Fin 4} {v : Int32} (hd : decode B.bytes pc = .ok (.iload_n k, 1)) (hl : ls[k.val]? = some (.val (.int v))) (hp : pc + 1 = pc') (H : WP l B Z n0 Q h cs sl pc' ls (.int v :: st)) : WP l B Z n0 Q h cs sl pc ls st := by
  subst hp; exact WP.step (fun p e s m args below meth c T L C X hT target k => XS.iloadN X.here C.1 rfl (hb C.2.2.2.1 hd) hl k) H
theorem WP.iload {k : Nat} {v : Int32} (hd : decode B.bytes pc = .ok (.iload k, 2)) (hl : ls[k]? = some (.val (.int v))) (hp : pc + 2 = pc') (H : WP l B Z n0 Q h cs sl pc' ls (.int v :: st)) : WP l B Z n0 Q h cs sl pc ls st := by
  subst hp; exact WP.step (fun p e s m args below meth c T L C X hT target k => XS.iload X.here C.1 rfl (hb C.2.2.2.1 hd) hl k) H
theorem WP.lloadN {k : Fin 4} {v : Int64} (hd : decode B.bytes pc = .ok (.lload_n k, 1)) (hl : ls[k.val]? = some (.val (.long v))) (hp : pc + 1 = pc') (H : WP l B Z n0 Q h cs sl pc' ls (.long v :: st)) : WP l B Z n0 Q h cs sl pc ls st := by
  subst hp; exact WP.step (fun p e s m args below meth c T L C X hT target k => XS.lloadN X.here C.1 rfl (hb C.2.2.2.1 hd) hl k) H
theorem WP.lload {k : Nat} {v : Int64} (hd : decode B.bytes pc = .ok (.lload k, 2)) (hl : ls[k]? = some (.val (.long v))) (hp : pc + 2 = pc') (H : WP l B Z n0 Q h cs sl pc' ls (.long v :: st)) : WP l B Z n0 Q h cs sl pc ls st := by
  subst hp; exact WP.step (fun p e s m args below meth c T L C X hT target k => XS.lload X.here C.1 rfl (hb C.2.2.2.1 hd) hl k) H
theorem WP.aloadN {k : Fin 4} {v : Value} (hd : decode B.bytes pc = .ok (.aload_n k, 1)) (hl : ls[k.val]? = some (.val v)) (hv : v.isRef = true) (hp : pc + 1 = pc') (H : WP l B Z n0 Q h cs sl pc' ls (v :: st)) : WP l B Z n0 Q h cs sl pc ls st := by
  subst hp; exact WP.step (fun p e s m args below meth c T L C X hT target k => XS.aloadN X.here C.1 rfl (hb C.2.2.2.1 hd) hl hv k) H
theorem WP.aload {k : Nat} {v : Value} (hd : decode B.bytes pc = .ok (.aload k, 2)) (hl : ls[k]? = some (.val v)) (hv : v.isRef = true) (hp : pc + 2 = pc') (H : WP l B Z n0 Q h cs sl pc' ls (v :: st)) : WP l B Z n0 Q h cs sl pc ls st := by
  subst hp; exact WP.step (fun p e s m args below meth c T L C X hT target k => XS.aload X.here C.1 rfl (hb C.2.2.2.1 hd) hl hv k) H
theorem WP.istoreN {k : Fin 4} {x : Int32} (hd : decode B.bytes pc = .ok (.istore_n k, 1)) (hp : pc + 1 = pc') (hl : storeLocals ls k.val (.int x) = some ls') (H : WP l B Z n0 Q h cs sl pc' ls' st) : WP l B Z n0 Q h cs sl pc ls (.int x :: st) := by
  subst hp; exact WP.step (fun p e s m args below meth c T L C X hT target k => XS.istoreN X.here C.1 rfl (hb C.2.2.2.1 hd) rfl hl k) H
theorem WP.istore {k : Nat} {x : Int32} (hd : decode B.bytes pc = .ok (.istore k, 2)) (hp : pc + 2 = pc') (hl : storeLocals ls k (.int x) = some ls') (H : WP l B Z n0 Q h cs sl pc' ls' st) : WP l B Z n0 Q h cs sl pc ls (.int x :: st) := by
  subst hp; exact WP.step (fun p e s m args below meth c T L C X hT target k => XS.istore X.here C.1 rfl (hb C.2.2.2.1 hd) rfl hl k) H
theorem WP.lstoreN {k : Fin 4} {x : Int64} (hd : decode B.bytes pc = .ok (.lstore_n k, 1)) (hp : pc + 1 = pc') (hl : storeLocals ls k.val (.long x) = some ls') (H : WP l B Z n0 Q h cs sl pc' ls' st) : WP l B Z n0 Q h cs sl pc ls (.long x :: st) := by
  subst hp; exact WP.step (fun p e s m args below meth c T L C X hT target k => XS.lstoreN X.here C.1 rfl (hb C.2.2.2.1 hd) rfl hl k) H
theorem WP.lstore {k : Nat} {x : Int64} (hd : decode B.bytes pc = .ok (.lstore k, 2)) (hp : pc + 2 = pc') (hl : storeLocals ls k (.long x) = some ls') (H : WP l B Z n0 Q h cs sl pc' ls' st) : WP l B Z n0 Q h cs sl pc ls (.long x :: st) := by
  subst hp; exact WP.step (fun p e s m args below meth c T L C X hT target k => XS.lstore X.here C.1 rfl (hb C.2.2.2.1 hd) rfl hl k) H
theorem WP.astoreN {k : Fin 4} {x : Value} (hd : decode B.bytes pc = .ok (.astore_n k, 1)) (hp : pc + 1 = pc') (hv : x.isRef = true) (hl : storeLocals ls k.val x = some ls') (H : WP l B Z n0 Q h cs sl pc' ls' st) : WP l B Z n0 Q h cs sl pc ls (x :: st) := by
  subst hp; exact WP.step (fun p e s m args below meth c T L C X hT target k => XS.astoreN X.here C.1 rfl (hb C.2.2.2.1 hd) rfl hv hl k) H
theorem WP.astore {k : Nat} {x : Value} (hd : decode B.bytes pc = .ok (.astore k, 2)) (hp : pc + 2 = pc') (hv : x.isRef = true) (hl : storeLocals ls k x = some ls') (H : WP l B Z n0 Q h cs sl pc' ls' st) : WP l B Z n0 Q h cs sl pc ls (x :: st) := by
  subst hp; exact WP.step (fun p e s m args below meth c T L C X hT target k => XS.astore X.here C.1 rfl (hb C.2.2.2.1 hd) rfl hv hl k) H
theorem WP.iconst {i : Int} {z : Int32} (hd : decode B.bytes pc = .ok (.iconst i, 1)) (hz : Int32.ofInt i = z) (hp : pc + 1 = pc') (H : WP l B Z n0 Q h cs sl pc' ls (.int z :: st)) : WP l B Z n0 Q h cs sl pc ls st := by
  subst hp hz; exact WP.step (fun p e s m args below meth c T L C X hT target k => XS.iconst X.here C.1 rfl (hb C.2.2.2.1 hd) k) H
theorem WP.bipush {i : Int} {z : Int32} (hd : decode B.bytes pc = .ok (.bipush i, 2)) (hz : (Int8.ofInt i).toInt32 = z) (hp : pc + 2 = pc') (H : WP l B Z n0 Q h cs sl pc' ls (.int z :: st)) : WP l B Z n0 Q h cs sl pc ls st := by
  subst hp hz; exact WP.step (fun p e s m args below meth c T L C X hT target k => XS.bipush X.here C.1 rfl (hb C.2.2.2.1 hd) k) H
theorem WP.sipush {i : Int} {z : Int32} (hd : decode B.bytes pc = .ok (.sipush i, 3)) (hz : (Int16.ofInt i).toInt32 = z) (hp : pc + 3 = pc') (H : WP l B Z n0 Q h cs sl pc' ls (.int z :: st)) : WP l B Z n0 Q h cs sl pc ls st := by
  subst hp hz; exact WP.step (fun p e s m args below meth c T L C X hT target k => XS.sipush X.here C.1 rfl (hb C.2.2.2.1 hd) k) H
theorem WP.lconst0 (hd : decode B.bytes pc = .ok (.lconst 0, 1)) (hp : pc + 1 = pc') (H : WP l B Z n0 Q h cs sl pc' ls (.long 0 :: st)) : WP l B Z n0 Q h cs sl pc ls st := by
  subst hp; exact WP.step (fun p e s m args below meth c T L C X hT target k => XS.lconst X.here C.1 rfl (hb C.2.2.2.1 hd) k) H
theorem WP.lconst1 (hd : decode B.bytes pc = .ok (.lconst 1, 1)) (hp : pc + 1 = pc') (H : WP l B Z n0 Q h cs sl pc' ls (.long 1 :: st)) : WP l B Z n0 Q h cs sl pc ls st := by
  subst hp; exact WP.step (fun p e s m args below meth c T L C X hT target k => XS.lconst X.here C.1 rfl (hb C.2.2.2.1 hd) k) H
theorem WP.aconstNull (hd : decode B.bytes pc = .ok (.aconst_null, 1)) (hp : pc + 1 = pc') (H : WP l B Z n0 Q h cs sl pc' ls (.null :: st)) : WP l B Z n0 Q h cs sl pc ls st := by
  subst hp; exact WP.step (fun p e s m args below meth c T L C X hT target k => XS.aconstNull X.here C.1 rfl (hb C.2.2.2.1 hd) k) H
theorem WP.ldcI {i : Nat} {z : Int32} (hd : decode B.bytes pc = .ok (.ldc i, 2)) (w : (Cond.constant B.own i z).before a0 Z = true) (hp : pc + 2 = pc') (H : WP l B Z n0 Q h cs sl pc' ls (.int z :: st)) : WP l B Z n0 Q h cs sl pc ls st := by
  subst hp; exact WP.step (fun p e s m args below meth c T L C X hT target k => X.ldcInt C.1 C.2.2.1 (mvT C.2.1 w) (g := mkF m pc ls st) rfl (hb C.2.2.2.1 hd) _ k) H
theorem WP.ldcwI {i : Nat} {z : Int32} (hd : decode B.bytes pc = .ok (.ldc_w i, 3)) (w : (Cond.constant B.own i z).before a0 Z = true) (hp : pc + 3 = pc') (H : WP l B Z n0 Q h cs sl pc' ls (.int z :: st)) : WP l B Z n0 Q h cs sl pc ls st := by
  subst hp; exact WP.step (fun p e s m args below meth c T L C X hT target k => X.ldcwInt C.1 C.2.2.1 (mvT C.2.1 w) (g := mkF m pc ls st) rfl (hb C.2.2.2.1 hd) _ k) H
theorem WP.ldc2J {i : Nat} {z : Int64} (hd : decode B.bytes pc = .ok (.ldc2_w i, 3)) (w : (Cond.constantLong B.own i z).before a0 Z = true) (hp : pc + 3 = pc') (H : WP l B Z n0 Q h cs sl pc' ls (.long z :: st)) : WP l B Z n0 Q h cs sl pc ls st := by
  subst hp; exact WP.step (fun p e s m args below meth c T L C X hT target k => X.ldc2Long C.1 C.2.2.1 (mvT C.2.1 w) (g := mkF m pc ls st) rfl (hb C.2.2.2.1 hd) _ k) H
theorem WP.iinc {k : Nat} {cst : Int} {x y : Int32} (hd : decode B.bytes pc = .ok (.iinc k cst, 3)) (hp : pc + 3 = pc') (hl : ls[k]? = some (.val (.int x))) (hy : x + Int32.ofInt cst = y) (hl' : storeLocals ls k (.int y) = some ls') (H : WP l B Z n0 Q h cs sl pc' ls' st) : WP l B Z n0 Q h cs sl pc ls st := by
  subst hp hy; exact WP.step (fun p e s m args below meth c T L C X hT target k => XS.iinc X.here C.1 rfl (hb C.2.2.2.1 hd) hl hl' k) H
/-! the stack -/
theorem WP.dup {x : Value} (hd : decode B.bytes pc = .ok (.dup, 1)) (hc : x.category = 1) (hp : pc + 1 = pc') (H : WP l B Z n0 Q h cs sl pc' ls (x :: x :: st)) : WP l B Z n0 Q h cs sl pc ls (x :: st) := by
  subst hp; exact WP.step (fun p e s m args below meth c T L C X hT target k => XS.dup X.here C.1 rfl (hb C.2.2.2.1 hd) rfl hc k) H
theorem WP.pop {x : Value} (hd : decode B.bytes pc = .ok (.pop, 1)) (hc : x.category = 1) (hp : pc + 1 = pc') (H : WP l B Z n0 Q h cs sl pc' ls st) : WP l B Z n0 Q h cs sl pc ls (x :: st) := by
  subst hp; exact WP.step (fun p e s m args below meth c T L C X hT target k => XS.pop X.here C.1 rfl (hb C.2.2.2.1 hd) rfl hc k) H
theorem WP.dupX1 {x y : Value} (hd : decode B.bytes pc = .ok (.dup_x1, 1)) (hc : x.category = 1) (hc' : y.category = 1) (hp : pc + 1 = pc') (H : WP l B Z n0 Q h cs sl pc' ls (x :: y :: x :: st)) : WP l B Z n0 Q h cs sl pc ls (x :: y :: st) := by
  subst hp; exact WP.step (fun p e s m args below meth c T L C X hT target k => XS.dupX1 X.here C.1 rfl (hb C.2.2.2.1 hd) rfl hc hc' k) H
theorem WP.dup2 {x y : Value} (hd : decode B.bytes pc = .ok (.dup2, 1)) (hc : x.category = 1) (hc' : y.category = 1) (hp : pc + 1 = pc') (H : WP l B Z n0 Q h cs sl pc' ls (x :: y :: x :: y :: st)) : WP l B Z n0 Q h cs sl pc ls (x :: y :: st) := by
  subst hp; exact WP.step (fun p e s m args below meth c T L C X hT target k => Jvm.Free.XT.dup2 X.here C.1 rfl (hb C.2.2.2.1 hd) rfl hc hc' k) H
/-! arithmetic -/
theorem WP.iadd {x : Int32} {y : Int32} (hd : decode B.bytes pc = .ok (.iadd, 1)) (hp : pc + 1 = pc') (H : WP l B Z n0 Q h cs sl pc' ls (.int (x + y) :: st)) : WP l B Z n0 Q h cs sl pc ls (.int y :: .int x :: st) := by
  subst hp; exact WP.step (fun p e s m args below meth c T L C X hT target k => XS.iadd X.here C.1 rfl (hb C.2.2.2.1 hd) rfl k) H
theorem WP.isub {x : Int32} {y : Int32} (hd : decode B.bytes pc = .ok (.isub, 1)) (hp : pc + 1 = pc') (H : WP l B Z n0 Q h cs sl pc' ls (.int (x - y) :: st)) : WP l B Z n0 Q h cs sl pc ls (.int y :: .int x :: st) := by
  subst hp; exact WP.step (fun p e s m args below meth c T L C X hT target k => XS.isub X.here C.1 rfl (hb C.2.2.2.1 hd) rfl k) H
theorem WP.imul {x : Int32} {y : Int32} (hd : decode B.bytes pc = .ok (.imul, 1)) (hp : pc + 1 = pc') (H : WP l B Z n0 Q h cs sl pc' ls (.int (x * y) :: st)) : WP l B Z n0 Q h cs sl pc ls (.int y :: .int x :: st) := by
  subst hp; exact WP.step (fun p e s m args below meth c T L C X hT target k => XS.imul X.here C.1 rfl (hb C.2.2.2.1 hd) rfl k) H
theorem WP.iand {x : Int32} {y : Int32} (hd : decode B.bytes pc = .ok (.iand, 1)) (hp : pc + 1 = pc') (H : WP l B Z n0 Q h cs sl pc' ls (.int (x &&& y) :: st)) : WP l B Z n0 Q h cs sl pc ls (.int y :: .int x :: st) := by
  subst hp; exact WP.step (fun p e s m args below meth c T L C X hT target k => XS.iand X.here C.1 rfl (hb C.2.2.2.1 hd) rfl k) H
theorem WP.ior {x : Int32} {y : Int32} (hd : decode B.bytes pc = .ok (.ior, 1)) (hp : pc + 1 = pc') (H : WP l B Z n0 Q h cs sl pc' ls (.int (x ||| y) :: st)) : WP l B Z n0 Q h cs sl pc ls (.int y :: .int x :: st) := by
  subst hp; exact WP.step (fun p e s m args below meth c T L C X hT target k => XS.ior X.here C.1 rfl (hb C.2.2.2.1 hd) rfl k) H
theorem WP.ixor {x : Int32} {y : Int32} (hd : decode B.bytes pc = .ok (.ixor, 1)) (hp : pc + 1 = pc') (H : WP l B Z n0 Q h cs sl pc' ls (.int (x ^^^ y) :: st)) : WP l B Z n0 Q h cs sl pc ls (.int y :: .int x :: st) := by
  subst hp; exact WP.step (fun p e s m args below meth c T L C X hT target k => XS.ixor X.here C.1 rfl (hb C.2.2.2.1 hd) rfl k) H
theorem WP.ladd {x : Int64} {y : Int64} (hd : decode B.bytes pc = .ok (.ladd, 1)) (hp : pc + 1 = pc') (H : WP l B Z n0 Q h cs sl pc' ls (.long (x + y) :: st)) : WP l B Z n0 Q h cs sl pc ls (.long y :: .long x :: st) := by
  subst hp; exact WP.step (fun p e s m args below meth c T L C X hT target k => XS.ladd X.here C.1 rfl (hb C.2.2.2.1 hd) rfl k) H
theorem WP.lsub {x : Int64} {y : Int64} (hd : decode B.bytes pc = .ok (.lsub, 1)) (hp : pc + 1 = pc') (H : WP l B Z n0 Q h cs sl pc' ls (.long (x - y) :: st)) : WP l B Z n0 Q h cs sl pc ls (.long y :: .long x :: st) := by
  subst hp; exact WP.step (fun p e s m args below meth c T L C X hT target k => XS.lsub X.here C.1 rfl (hb C.2.2.2.1 hd) rfl k) H
theorem WP.lmul {x : Int64} {y : Int64} (hd : decode B.bytes pc = .ok (.lmul, 1)) (hp : pc + 1 = pc') (H : WP l B Z n0 Q h cs sl pc' ls (.long (x * y) :: st)) : WP l B Z n0 Q h cs sl pc ls (.long y :: .long x :: st) := by
  subst hp; exact WP.step (fun p e s m args below meth c T L C X hT target k => XS.lmul X.here C.1 rfl (hb C.2.2.2.1 hd) rfl k) H
theorem WP.land {x : Int64} {y : Int64} (hd : decode B.bytes pc = .ok (.land, 1)) (hp : pc + 1 = pc') (H : WP l B Z n0 Q h cs sl pc' ls (.long (x &&& y) :: st)) : WP l B Z n0 Q h cs sl pc ls (.long y :: .long x :: st) := by
  subst hp; exact WP.step (fun p e s m args below meth c T L C X hT target k => XS.land X.here C.1 rfl (hb C.2.2.2.1 hd) rfl k) H
theorem WP.lor {x : Int64} {y : Int64} (hd : decode B.bytes pc = .ok (.lor, 1)) (hp : pc + 1 = pc') (H : WP l B Z n0 Q h cs sl pc' ls (.long (x ||| y) :: st)) : WP l B Z n0 Q h cs sl pc ls (.long y :: .long x :: st) := by
  subst hp; exact WP.step (fun p e s m args below meth c T L C X hT target k => XS.lor X.here C.1 rfl (hb C.2.2.2.1 hd) rfl k) H
theorem WP.lxor {x : Int64} {y : Int64} (hd : decode B.bytes pc = .ok (.lxor, 1)) (hp : pc + 1 = pc') (H : WP l B Z n0 Q h cs sl pc' ls (.long (x ^^^ y) :: st)) : WP l B Z n0 Q h cs sl pc ls (.long y :: .long x :: st) := by
  subst hp; exact WP.step (fun p e s m args below meth c T L C X hT target k => XS.lxor X.here C.1 rfl (hb C.2.2.2.1 hd) rfl k) H
theorem WP.ishl {x : Int32} {y : Int32} (hd : decode B.bytes pc = .ok (.ishl, 1)) (hp : pc + 1 = pc') (H : WP l B Z n0 Q h cs sl pc' ls (.int (x <<< (y &&& 31)) :: st)) : WP l B Z n0 Q h cs sl pc ls (.int y :: .int x :: st) := by
  subst hp; exact WP.step (fun p e s m args below meth c T L C X hT target k => XS.ishl X.here C.1 rfl (hb C.2.2.2.1 hd) rfl k) H
theorem WP.ishr {x : Int32} {y : Int32} (hd : decode B.bytes pc = .ok (.ishr, 1)) (hp : pc + 1 = pc') (H : WP l B Z n0 Q h cs sl pc' ls (.int (x >>> (y &&& 31)) :: st)) : WP l B Z n0 Q h cs sl pc ls (.int y :: .int x :: st) := by
  subst hp; exact WP.step (fun p e s m args below meth c T L C X hT target k => XS.ishr X.here C.1 rfl (hb C.2.2.2.1 hd) rfl k) H
theorem WP.iushr {x : Int32} {y : Int32} (hd : decode B.bytes pc = .ok (.iushr, 1)) (hp : pc + 1 = pc') (H : WP l B Z n0 Q h cs sl pc' ls (.int (ushr x y) :: st)) : WP l B Z n0 Q h cs sl pc ls (.int y :: .int x :: st) := by
  subst hp; exact WP.step (fun p e s m args below meth c T L C X hT target k => XS.iushr X.here C.1 rfl (hb C.2.2.2.1 hd) rfl k) H
theorem WP.lshl {x : Int64} {y : Int32} (hd : decode B.bytes pc = .ok (.lshl, 1)) (hp : pc + 1 = pc') (H : WP l B Z n0 Q h cs sl pc' ls (.long (x <<< (y &&& 63).toInt64) :: st)) : WP l B Z n0 Q h cs sl pc ls (.int y :: .long x :: st) := by
  subst hp; exact WP.step (fun p e s m args below meth c T L C X hT target k => XS.lshl X.here C.1 rfl (hb C.2.2.2.1 hd) rfl k) H
theorem WP.lshr {x : Int64} {y : Int32} (hd : decode B.bytes pc = .ok (.lshr, 1)) (hp : pc + 1 = pc') (H : WP l B Z n0 Q h cs sl pc' ls (.long (x >>> (y &&& 63).toInt64) :: st)) : WP l B Z n0 Q h cs sl pc ls (.int y :: .long x :: st) := by
  subst hp; exact WP.step (fun p e s m args below meth c T L C X hT target k => XS.lshr X.here C.1 rfl (hb C.2.2.2.1 hd) rfl k) H
theorem WP.lushr {x : Int64} {y : Int32} (hd : decode B.bytes pc = .ok (.lushr, 1)) (hp : pc + 1 = pc') (H : WP l B Z n0 Q h cs sl pc' ls (.long (ushrL x y) :: st)) : WP l B Z n0 Q h cs sl pc ls (.int y :: .long x :: st) := by
  subst hp; exact WP.step (fun p e s m args below meth c T L C X hT target k => XS.lushr X.here C.1 rfl (hb C.2.2.2.1 hd) rfl k) H
theorem WP.ineg {x : Int32}  (hd : decode B.bytes pc = .ok (.ineg, 1)) (hp : pc + 1 = pc') (H : WP l B Z n0 Q h cs sl pc' ls (.int (-x) :: st)) : WP l B Z n0 Q h cs sl pc ls (.int x :: st) := by
  subst hp; exact WP.step (fun p e s m args below meth c T L C X hT target k => XS.ineg X.here C.1 rfl (hb C.2.2.2.1 hd) rfl k) H
theorem WP.lneg {x : Int64}  (hd : decode B.bytes pc = .ok (.lneg, 1)) (hp : pc + 1 = pc') (H : WP l B Z n0 Q h cs sl pc' ls (.long (-x) :: st)) : WP l B Z n0 Q h cs sl pc ls (.long x :: st) := by
  subst hp; exact WP.step (fun p e s m args below meth c T L C X hT target k => XS.lneg X.here C.1 rfl (hb C.2.2.2.1 hd) rfl k) H
theorem WP.i2l {x : Int32}  (hd : decode B.bytes pc = .ok (.i2l, 1)) (hp : pc + 1 = pc') (H : WP l B Z n0 Q h cs sl pc' ls (.long x.toInt64 :: st)) : WP l B Z n0 Q h cs sl pc ls (.int x :: st) := by
  subst hp; exact WP.step (fun p e s m args below meth c T L C X hT target k => XS.i2l X.here C.1 rfl (hb C.2.2.2.1 hd) rfl k) H
theorem WP.l2i {x : Int64}  (hd : decode B.bytes pc = .ok (.l2i, 1)) (hp : pc + 1 = pc') (H : WP l B Z n0 Q h cs sl pc' ls (.int x.toInt32 :: st)) : WP l B Z n0 Q h cs sl pc ls (.long x :: st) := by
  subst hp; exact WP.step (fun p e s m args below meth c T L C X hT target k => XS.l2i X.here C.1 rfl (hb C.2.2.2.1 hd) rfl k) H
theorem WP.i2b {x : Int32}  (hd : decode B.bytes pc = .ok (.i2b, 1)) (hp : pc + 1 = pc') (H : WP l B Z n0 Q h cs sl pc' ls (.int x.toInt8.toInt32 :: st)) : WP l B Z n0 Q h cs sl pc ls (.int x :: st) := by
  subst hp; exact WP.step (fun p e s m args below meth c T L C X hT target k => XS.i2b X.here C.1 rfl (hb C.2.2.2.1 hd) rfl k) H
theorem WP.i2s {x : Int32}  (hd : decode B.bytes pc = .ok (.i2s, 1)) (hp : pc + 1 = pc') (H : WP l B Z n0 Q h cs sl pc' ls (.int x.toInt16.toInt32 :: st)) : WP l B Z n0 Q h cs sl pc ls (.int x :: st) := by
  subst hp; exact WP.step (fun p e s m args below meth c T L C X hT target k => XS.i2s X.here C.1 rfl (hb C.2.2.2.1 hd) rfl k) H
theorem WP.i2c {x : Int32}  (hd : decode B.bytes pc = .ok (.i2c, 1)) (hp : pc + 1 = pc') (H : WP l B Z n0 Q h cs sl pc' ls (.int x.toUInt32.toUInt16.toUInt32.toInt32 :: st)) : WP l B Z n0 Q h cs sl pc ls (.int x :: st) := by
  subst hp; exact WP.step (fun p e s m args below meth c T L C X hT target k => XS.i2c X.here C.1 rfl (hb C.2.2.2.1 hd) rfl k) H
/-! division (never by zero here), branches -/
theorem WP.irem {x y : Int32} (hd : decode B.bytes pc = .ok (.irem, 1)) (hy : y ≠ 0) (hp : pc + 1 = pc') (H : WP l B Z n0 Q h cs sl pc' ls (.int (x % y) :: st)) : WP l B Z n0 Q h cs sl pc ls (.int y :: .int x :: st) := by
  subst hp; exact WP.step (fun p e s m args below meth c T L C X hT target k => iremM X C.1 rfl (hb C.2.2.2.1 hd) rfl hy k) H
theorem WP.idiv {x y : Int32} (hd : decode B.bytes pc = .ok (.idiv, 1)) (hy : y ≠ 0) (hp : pc + 1 = pc') (H : WP l B Z n0 Q h cs sl pc' ls (.int (x / y) :: st)) : WP l B Z n0 Q h cs sl pc ls (.int y :: .int x :: st) := by
  subst hp; exact WP.step (fun p e s m args below meth c T L C X hT target k => XS.idiv X.here C.1 rfl (hb C.2.2.2.1 hd) rfl hy k) H
theorem WP.lrem {x y : Int64} (hd : decode B.bytes pc = .ok (.lrem, 1)) (hy : y ≠ 0) (hp : pc + 1 = pc') (H : WP l B Z n0 Q h cs sl pc' ls (.long (x - x / y * y) :: st)) : WP l B Z n0 Q h cs sl pc ls (.long y :: .long x :: st) := by
  subst hp; exact WP.step (fun p e s m args below meth c T L C X hT target k => XS.lrem X.here C.1 rfl (hb C.2.2.2.1 hd) rfl hy k) H
theorem WP.goto {o : Int} (hd : decode B.bytes pc = .ok (.goto o, 3)) (ht : (pc : Int) + o = (pc' : Int)) (H : WP l B Z n0 Q h cs sl pc' ls st) : WP l B Z n0 Q h cs sl pc ls st :=
  WP.step (fun p e s m args below meth c T L C X hT target k => XS.goto X.here C.1 rfl (pc0 := pc) (pc' := pc') rfl (hb C.2.2.2.1 hd) (by omega) (by omega) k) H
theorem own_holds (cd : ClassFile.Cond) (x y : Int32) : if_icmp.holds cd x y = match cd with | .eq => decide (x.toInt = y.toInt) | .ne => decide (x.toInt ≠ y.toInt) | .lt => decide (x.toInt < y.toInt) | .ge => decide (y.toInt ≤ x.toInt) | .gt => decide (y.toInt < x.toInt) | .le => decide (x.toInt ≤ y.toInt) := by
  have q : x = y ↔ x.toInt = y.toInt := ⟨fun h => by rw [h], Int32.toInt_inj.mp⟩
  by_cases e : x = y
  · subst e
    cases cd <;> simp [if_icmp.holds]
  · have e' : ¬ x.toInt = y.toInt := fun h => e (q.mpr h)
    cases cd <;> simp [if_icmp.holds, e, e', Int32.lt_iff_toInt_lt, Int32.le_iff_toInt_le]
theorem own_cmpL (cd : ClassFile.Cond) (x y : Int64) : if_icmp.holds cd (cmpL x y) 0 = match cd with | .eq => decide (x.toInt = y.toInt) | .ne => decide (x.toInt ≠ y.toInt) | .lt => decide (x.toInt < y.toInt) | .ge => decide (y.toInt ≤ x.toInt) | .gt => decide (y.toInt < x.toInt) | .le => decide (x.toInt ≤ y.toInt) := by
  have q : x = y ↔ x.toInt = y.toInt := ⟨fun h => by rw [h], Int64.toInt_inj.mp⟩
  rw [own_holds]
  simp only [cmpL, GT.gt, Int64.lt_iff_toInt_lt, q]
  have e1 : (1 : Int32).toInt = 1 := rfl
  have e0 : (0 : Int32).toInt = 0 := rfl
  have em : (-1 : Int32).toInt = -1 := rfl
  by_cases c1 : y.toInt < x.toInt
  · simp only [c1, if_true, e1, e0]
    cases cd <;> simp <;> omega
  · by_cases c2 : x.toInt = y.toInt
    · simp only [c2, Int.lt_irrefl, if_false, if_true, e0]
      cases cd <;> simp
    · simp only [c1, c2, if_false, em, e0]
      cases cd <;> simp <;> omega
theorem WP.icmp {cd : ClassFile.Cond} {x y : Int32} {o : Int} {tgt : Nat} (hd : decode B.bytes pc = .ok (.if_icmp cd o, 3)) (ht : (pc : Int) + o = (tgt : Int)) (hp : pc + 3 = pc') (HY : if_icmp.holds cd x y = true → WP l B Z n0 Q h cs sl tgt ls st) (HN : if_icmp.holds cd x y = false → WP l B Z n0 Q h cs sl pc' ls st) : WP l B Z n0 Q h cs sl pc ls (.int y :: .int x :: st) := by
  subst hp
  cases hc : if_icmp.holds cd x y
  · exact WP.step (fun p e s m args below meth c T L C X hT target k => XS.icmpNo X.here C.1 rfl (hb C.2.2.2.1 hd) rfl hc k) (HN hc)
  · exact WP.step (fun p e s m args below meth c T L C X hT target k => XS.icmpYes X.here C.1 rfl (pc0 := pc) (pc' := tgt) rfl (hb C.2.2.2.1 hd) rfl hc (by omega) (by omega) k) (HY hc)
theorem WP.ifc {cd : ClassFile.Cond} {x : Int32} {o : Int} {tgt : Nat} (hd : decode B.bytes pc = .ok (.ifCond cd o, 3)) (ht : (pc : Int) + o = (tgt : Int)) (hp : pc + 3 = pc') (HY : if_icmp.holds cd x 0 = true → WP l B Z n0 Q h cs sl tgt ls st) (HN : if_icmp.holds cd x 0 = false → WP l B Z n0 Q h cs sl pc' ls st) : WP l B Z n0 Q h cs sl pc ls (.int x :: st) := by
  subst hp
  cases hc : if_icmp.holds cd x 0
  · exact WP.step (fun p e s m args below meth c T L C X hT target k => XS.ifNo X.here C.1 rfl (hb C.2.2.2.1 hd) rfl ((if0 _ _).trans hc) k) (HN hc)
  · exact WP.step (fun p e s m args below meth c T L C X hT target k => XS.ifYes X.here C.1 rfl (pc0 := pc) (pc' := tgt) rfl (hb C.2.2.2.1 hd) rfl ((if0 _ _).trans hc) (by omega) (by omega) k) (HY hc)
theorem WP.lcmp {x y : Int64} (hd : decode B.bytes pc = .ok (.lcmp, 1)) (hp : pc + 1 = pc') (H : WP l B Z n0 Q h cs sl pc' ls (.int (cmpL x y) :: st)) : WP l B Z n0 Q h cs sl pc ls (.long y :: .long x :: st) := by
  subst hp; exact WP.step (fun p e s m args below meth c T L C X hT target k => XS.lcmp X.here C.1 rfl (hb C.2.2.2.1 hd) rfl k) H
theorem WP.icmpEq {x y : Int32} {o : Int} {tgt : Nat} (hd : decode B.bytes pc = .ok (.if_icmp .eq o, 3)) (ht : (pc : Int) + o = (tgt : Int)) (hp : pc + 3 = pc') (HY : x.toInt = y.toInt → WP l B Z n0 Q h cs sl tgt ls st) (HN : x.toInt ≠ y.toInt → WP l B Z n0 Q h cs sl pc' ls st) : WP l B Z n0 Q h cs sl pc ls (.int y :: .int x :: st) :=
  WP.icmp hd ht hp (fun q => HY (by rw [own_holds] at q; simpa using q)) (fun q => HN (by rw [own_holds] at q; simpa using q))
theorem WP.ifEq {x : Int32} {o : Int} {tgt : Nat} (hd : decode B.bytes pc = .ok (.ifCond .eq o, 3)) (ht : (pc : Int) + o = (tgt : Int)) (hp : pc + 3 = pc') (HY : x.toInt = 0 → WP l B Z n0 Q h cs sl tgt ls st) (HN : x.toInt ≠ 0 → WP l B Z n0 Q h cs sl pc' ls st) : WP l B Z n0 Q h cs sl pc ls (.int x :: st) :=
  WP.ifc hd ht hp (fun q => HY (by rw [own_holds] at q; simpa using q)) (fun q => HN (by rw [own_holds] at q; simpa using q))
theorem WP.lcmpEq {x y : Int64} {o : Int} {tgt pc1 : Nat} (hd : decode B.bytes pc = .ok (.lcmp, 1)) (h1 : pc + 1 = pc1) (hd1 : decode B.bytes pc1 = .ok (.ifCond .eq o, 3)) (ht : (pc1 : Int) + o = (tgt : Int)) (hp : pc1 + 3 = pc') (HY : x.toInt = y.toInt → WP l B Z n0 Q h cs sl tgt ls st) (HN : x.toInt ≠ y.toInt → WP l B Z n0 Q h cs sl pc' ls st) : WP l B Z n0 Q h cs sl pc ls (.long y :: .long x :: st) :=
  WP.lcmp hd h1 (WP.ifc hd1 ht hp (fun q => HY (by rw [own_cmpL] at q; simpa using q)) (fun q => HN (by rw [own_cmpL] at q; simpa using q)))
theorem WP.icmpNe {x y : Int32} {o : Int} {tgt : Nat} (hd : decode B.bytes pc = .ok (.if_icmp .ne o, 3)) (ht : (pc : Int) + o = (tgt : Int)) (hp : pc + 3 = pc') (HY : x.toInt ≠ y.toInt → WP l B Z n0 Q h cs sl tgt ls st) (HN : x.toInt = y.toInt → WP l B Z n0 Q h cs sl pc' ls st) : WP l B Z n0 Q h cs sl pc ls (.int y :: .int x :: st) :=
  WP.icmp hd ht hp (fun q => HY (by rw [own_holds] at q; simpa using q)) (fun q => HN (by rw [own_holds] at q; simpa using q))
theorem WP.ifNe {x : Int32} {o : Int} {tgt : Nat} (hd : decode B.bytes pc = .ok (.ifCond .ne o, 3)) (ht : (pc : Int) + o = (tgt : Int)) (hp : pc + 3 = pc') (HY : x.toInt ≠ 0 → WP l B Z n0 Q h cs sl tgt ls st) (HN : x.toInt = 0 → WP l B Z n0 Q h cs sl pc' ls st) : WP l B Z n0 Q h cs sl pc ls (.int x :: st) :=
  WP.ifc hd ht hp (fun q => HY (by rw [own_holds] at q; simpa using q)) (fun q => HN (by rw [own_holds] at q; simpa using q))
theorem WP.lcmpNe {x y : Int64} {o : Int} {tgt pc1 : Nat} (hd : decode B.bytes pc = .ok (.lcmp, 1)) (h1 : pc + 1 = pc1) (hd1 : decode B.bytes pc1 = .ok (.ifCond .ne o, 3)) (ht : (pc1 : Int) + o = (tgt : Int)) (hp : pc1 + 3 = pc') (HY : x.toInt ≠ y.toInt → WP l B Z n0 Q h cs sl tgt ls st) (HN : x.toInt = y.toInt → WP l B Z n0 Q h cs sl pc' ls st) : WP l B Z n0 Q h cs sl pc ls (.long y :: .long x :: st) :=
  WP.lcmp hd h1 (WP.ifc hd1 ht hp (fun q => HY (by rw [own_cmpL] at q; simpa using q)) (fun q => HN (by rw [own_cmpL] at q; simpa using q)))
theorem WP.icmpLt {x y : Int32} {o : Int} {tgt : Nat} (hd : decode B.bytes pc = .ok (.if_icmp .lt o, 3)) (ht : (pc : Int) + o = (tgt : Int)) (hp : pc + 3 = pc') (HY : x.toInt < y.toInt → WP l B Z n0 Q h cs sl tgt ls st) (HN : y.toInt ≤ x.toInt → WP l B Z n0 Q h cs sl pc' ls st) : WP l B Z n0 Q h cs sl pc ls (.int y :: .int x :: st) :=
  WP.icmp hd ht hp (fun q => HY (by rw [own_holds] at q; simpa using q)) (fun q => HN (by rw [own_holds] at q; simpa using q))
theorem WP.ifLt {x : Int32} {o : Int} {tgt : Nat} (hd : decode B.bytes pc = .ok (.ifCond .lt o, 3)) (ht : (pc : Int) + o = (tgt : Int)) (hp : pc + 3 = pc') (HY : x.toInt < 0 → WP l B Z n0 Q h cs sl tgt ls st) (HN : 0 ≤ x.toInt → WP l B Z n0 Q h cs sl pc' ls st) : WP l B Z n0 Q h cs sl pc ls (.int x :: st) :=
  WP.ifc hd ht hp (fun q => HY (by rw [own_holds] at q; simpa using q)) (fun q => HN (by rw [own_holds] at q; simpa using q))
theorem WP.lcmpLt {x y : Int64} {o : Int} {tgt pc1 : Nat} (hd : decode B.bytes pc = .ok (.lcmp, 1)) (h1 : pc + 1 = pc1) (hd1 : decode B.bytes pc1 = .ok (.ifCond .lt o, 3)) (ht : (pc1 : Int) + o = (tgt : Int)) (hp : pc1 + 3 = pc') (HY : x.toInt < y.toInt → WP l B Z n0 Q h cs sl tgt ls st) (HN : y.toInt ≤ x.toInt → WP l B Z n0 Q h cs sl pc' ls st) : WP l B Z n0 Q h cs sl pc ls (.long y :: .long x :: st) :=
  WP.lcmp hd h1 (WP.ifc hd1 ht hp (fun q => HY (by rw [own_cmpL] at q; simpa using q)) (fun q => HN (by rw [own_cmpL] at q; simpa using q)))
theorem WP.icmpGe {x y : Int32} {o : Int} {tgt : Nat} (hd : decode B.bytes pc = .ok (.if_icmp .ge o, 3)) (ht : (pc : Int) + o = (tgt : Int)) (hp : pc + 3 = pc') (HY : y.toInt ≤ x.toInt → WP l B Z n0 Q h cs sl tgt ls st) (HN : x.toInt < y.toInt → WP l B Z n0 Q h cs sl pc' ls st) : WP l B Z n0 Q h cs sl pc ls (.int y :: .int x :: st) :=
  WP.icmp hd ht hp (fun q => HY (by rw [own_holds] at q; simpa using q)) (fun q => HN (by rw [own_holds] at q; simpa using q))
theorem WP.ifGe {x : Int32} {o : Int} {tgt : Nat} (hd : decode B.bytes pc = .ok (.ifCond .ge o, 3)) (ht : (pc : Int) + o = (tgt : Int)) (hp : pc + 3 = pc') (HY : 0 ≤ x.toInt → WP l B Z n0 Q h cs sl tgt ls st) (HN : x.toInt < 0 → WP l B Z n0 Q h cs sl pc' ls st) : WP l B Z n0 Q h cs sl pc ls (.int x :: st) :=
  WP.ifc hd ht hp (fun q => HY (by rw [own_holds] at q; simpa using q)) (fun q => HN (by rw [own_holds] at q; simpa using q))
theorem WP.lcmpGe {x y : Int64} {o : Int} {tgt pc1 : Nat} (hd : decode B.bytes pc = .ok (.lcmp, 1)) (h1 : pc + 1 = pc1) (hd1 : decode B.bytes pc1 = .ok (.ifCond .ge o, 3)) (ht : (pc1 : Int) + o = (tgt : Int)) (hp : pc1 + 3 = pc') (HY : y.toInt ≤ x.toInt → WP l B Z n0 Q h cs sl tgt ls st) (HN : x.toInt < y.toInt → WP l B Z n0 Q h cs sl pc' ls st) : WP l B Z n0 Q h cs sl pc ls (.long y :: .long x :: st) :=
  WP.lcmp hd h1 (WP.ifc hd1 ht hp (fun q => HY (by rw [own_cmpL] at q; simpa using q)) (fun q => HN (by rw [own_cmpL] at q; simpa using q)))
theorem WP.icmpGt {x y : Int32} {o : Int} {tgt : Nat} (hd : decode B.bytes pc = .ok (.if_icmp .gt o, 3)) (ht : (pc : Int) + o = (tgt : Int)) (hp : pc + 3 = pc') (HY : y.toInt < x.toInt → WP l B Z n0 Q h cs sl tgt ls st) (HN : x.toInt ≤ y.toInt → WP l B Z n0 Q h cs sl pc' ls st) : WP l B Z n0 Q h cs sl pc ls (.int y :: .int x :: st) :=
  WP.icmp hd ht hp (fun q => HY (by rw [own_holds] at q; simpa using q)) (fun q => HN (by rw [own_holds] at q; simpa using q))
theorem WP.ifGt {x : Int32} {o : Int} {tgt : Nat} (hd : decode B.bytes pc = .ok (.ifCond .gt o, 3)) (ht : (pc : Int) + o = (tgt : Int)) (hp : pc + 3 = pc') (HY : 0 < x.toInt → WP l B Z n0 Q h cs sl tgt ls st) (HN : x.toInt ≤ 0 → WP l B Z n0 Q h cs sl pc' ls st) : WP l B Z n0 Q h cs sl pc ls (.int x :: st) :=
  WP.ifc hd ht hp (fun q => HY (by rw [own_holds] at q; simpa using q)) (fun q => HN (by rw [own_holds] at q; simpa using q))
theorem WP.lcmpGt {x y : Int64} {o : Int} {tgt pc1 : Nat} (hd : decode B.bytes pc = .ok (.lcmp, 1)) (h1 : pc + 1 = pc1) (hd1 : decode B.bytes pc1 = .ok (.ifCond .gt o, 3)) (ht : (pc1 : Int) + o = (tgt : Int)) (hp : pc1 + 3 = pc') (HY : y.toInt < x.toInt → WP l B Z n0 Q h cs sl tgt ls st) (HN : x.toInt ≤ y.toInt → WP l B Z n0 Q h cs sl pc' ls st) : WP l B Z n0 Q h cs sl pc ls (.long y :: .long x :: st) :=
  WP.lcmp hd h1 (WP.ifc hd1 ht hp (fun q => HY (by rw [own_cmpL] at q; simpa using q)) (fun q => HN (by rw [own_cmpL] at q; simpa using q)))
theorem WP.icmpLe {x y : Int32} {o : Int} {tgt : Nat} (hd : decode B.bytes pc = .ok (.if_icmp .le o, 3)) (ht : (pc : Int) + o = (tgt : Int)) (hp : pc + 3 = pc') (HY : x.toInt ≤ y.toInt → WP l B Z n0 Q h cs sl tgt ls st) (HN : y.toInt < x.toInt → WP l B Z n0 Q h cs sl pc' ls st) : WP l B Z n0 Q h cs sl pc ls (.int y :: .int x :: st) :=
  WP.icmp hd ht hp (fun q => HY (by rw [own_holds] at q; simpa using q)) (fun q => HN (by rw [own_holds] at q; simpa using q))
theorem WP.ifLe {x : Int32} {o : Int} {tgt : Nat} (hd : decode B.bytes pc = .ok (.ifCond .le o, 3)) (ht : (pc : Int) + o = (tgt : Int)) (hp : pc + 3 = pc') (HY : x.toInt ≤ 0 → WP l B Z n0 Q h cs sl tgt ls st) (HN : 0 < x.toInt → WP l B Z n0 Q h cs sl pc' ls st) : WP l B Z n0 Q h cs sl pc ls (.int x :: st) :=
  WP.ifc hd ht hp (fun q => HY (by rw [own_holds] at q; simpa using q)) (fun q => HN (by rw [own_holds] at q; simpa using q))
theorem WP.lcmpLe {x y : Int64} {o : Int} {tgt pc1 : Nat} (hd : decode B.bytes pc = .ok (.lcmp, 1)) (h1 : pc + 1 = pc1) (hd1 : decode B.bytes pc1 = .ok (.ifCond .le o, 3)) (ht : (pc1 : Int) + o = (tgt : Int)) (hp : pc1 + 3 = pc') (HY : x.toInt ≤ y.toInt → WP l B Z n0 Q h cs sl tgt ls st) (HN : y.toInt < x.toInt → WP l B Z n0 Q h cs sl pc' ls st) : WP l B Z n0 Q h cs sl pc ls (.long y :: .long x :: st) :=
  WP.lcmp hd h1 (WP.ifc hd1 ht hp (fun q => HY (by rw [own_cmpL] at q; simpa using q)) (fun q => HN (by rw [own_cmpL] at q; simpa using q)))
theorem WP.ifnullY {o : Int} (hd : decode B.bytes pc = .ok (.ifnull o, 3)) (ht : (pc : Int) + o = (pc' : Int)) (H : WP l B Z n0 Q h cs sl pc' ls st) : WP l B Z n0 Q h cs sl pc ls (.null :: st) :=
  WP.step (fun p e s m args below meth c T L C X hT target k => XS.ifnullYes X.here C.1 rfl (pc0 := pc) (pc' := pc') rfl (hb C.2.2.2.1 hd) rfl (by omega) (by omega) k) H
theorem WP.ifnullN {o : Int} {a : Addr} (hd : decode B.bytes pc = .ok (.ifnull o, 3)) (hp : pc + 3 = pc') (H : WP l B Z n0 Q h cs sl pc' ls st) : WP l B Z n0 Q h cs sl pc ls (.ref a :: st) := by
  subst hp; exact WP.step (fun p e s m args below meth c T L C X hT target k => XS.ifnullNo X.here C.1 rfl (hb C.2.2.2.1 hd) rfl k) H
theorem WP.ifnonnullN {o : Int} (hd : decode B.bytes pc = .ok (.ifnonnull o, 3)) (hp : pc + 3 = pc') (H : WP l B Z n0 Q h cs sl pc' ls st) : WP l B Z n0 Q h cs sl pc ls (.null :: st) := by
  subst hp; exact WP.step (fun p e s m args below meth c T L C X hT target k => XS.ifnonnullNo X.here C.1 rfl (hb C.2.2.2.1 hd) rfl k) H
theorem WP.ifnonnullY {o : Int} {a : Addr} (hd : decode B.bytes pc = .ok (.ifnonnull o, 3)) (ht : (pc : Int) + o = (pc' : Int)) (H : WP l B Z n0 Q h cs sl pc' ls st) : WP l B Z n0 Q h cs sl pc ls (.ref a :: st) :=
  WP.step (fun p e s m args below meth c T L C X hT target k => XS.ifnonnullYes X.here C.1 rfl (pc0 := pc) (pc' := pc') rfl (hb C.2.2.2.1 hd) rfl (by omega) (by omega) k) H
theorem WP.acmpEq {x y : Value} {o : Int} {tgt : Nat} (hd : decode B.bytes pc = .ok (.if_acmp .eq o, 3)) (ht : (pc : Int) + o = (tgt : Int)) (hp : pc + 3 = pc') (h1 : x.isRef = true) (h2 : y.isRef = true) (HY : x = y → WP l B Z n0 Q h cs sl tgt ls st) (HN : x ≠ y → WP l B Z n0 Q h cs sl pc' ls st) : WP l B Z n0 Q h cs sl pc ls (y :: x :: st) := by
  subst hp
  have e1 : ((pc : Int) + o).toNat = tgt := by omega
  by_cases q : x = y
  · exact WP.step (fun p e s m args below meth c T L C X hT target k => Jvm.RoadKit.acmp (g := mkF m pc ls (y :: x :: st)) X C.1 rfl h1 h2 (pc0 := pc) (pc' := tgt) (same := true) rfl (hb C.2.2.2.1 hd) rfl (by simp [q]) (by omega) (by simp [acV, e1]) k) (HY q)
  · exact WP.step (fun p e s m args below meth c T L C X hT target k => Jvm.RoadKit.acmp (g := mkF m pc ls (y :: x :: st)) X C.1 rfl h1 h2 (pc0 := pc) (pc' := pc + 3) (same := false) rfl (hb C.2.2.2.1 hd) rfl (by simp [q]) (by omega) (by simp [acV]) k) (HN q)
theorem WP.acmpNe {x y : Value} {o : Int} {tgt : Nat} (hd : decode B.bytes pc = .ok (.if_acmp .ne o, 3)) (ht : (pc : Int) + o = (tgt : Int)) (hp : pc + 3 = pc') (h1 : x.isRef = true) (h2 : y.isRef = true) (HY : x ≠ y → WP l B Z n0 Q h cs sl tgt ls st) (HN : x = y → WP l B Z n0 Q h cs sl pc' ls st) : WP l B Z n0 Q h cs sl pc ls (y :: x :: st) := by
  subst hp
  have e1 : ((pc : Int) + o).toNat = tgt := by omega
  by_cases q : x = y
  · exact WP.step (fun p e s m args below meth c T L C X hT target k => Jvm.RoadKit.acmp (g := mkF m pc ls (y :: x :: st)) X C.1 rfl h1 h2 (pc0 := pc) (pc' := pc + 3) (same := true) rfl (hb C.2.2.2.1 hd) rfl (by simp [q]) (by omega) (by simp [acV]) k) (HN q)
  · exact WP.step (fun p e s m args below meth c T L C X hT target k => Jvm.RoadKit.acmp (g := mkF m pc ls (y :: x :: st)) X C.1 rfl h1 h2 (pc0 := pc) (pc' := tgt) (same := false) rfl (hb C.2.2.2.1 hd) rfl (by simp [q]) (by omega) (by simp [acV, e1]) k) (HY q)
/-! returns -/
theorem WP.ret0 (hd : decode B.bytes pc = .ok (.return_, 1)) (hr : B.ret = none) (hc : cs ≤ B.room.cells) (hs : sl ≤ B.room.slots) (hQ : Q none h) : WP l B Z n0 Q h cs sl pc ls [] := by
  intro p e s m args below meth c T L C X hT N hn
  obtain ⟨hx, hZ, hown, hby, hml, hret, hlk, hnm⟩ := C
  obtain ⟨fs, hrr, hrun, hended, hW, hsame⟩ := X.leave (v := none) (fun _ => rfl) hlk
  have hh : (T.setFrames fs).heap = h := hT
  exact ⟨T.setFrames fs, none, L, X.returnOut hx (hret.trans hr) (hb hby hd) hrr, hrun, hended, by rw [hh]; exact hQ, N, by rw [hh]; exact hn, ⟨_, rfl⟩, hW, hsame.mono hc hs⟩
theorem WP.retI {z : Int32} (hd : decode B.bytes pc = .ok (.ireturn, 1)) (hr : B.ret = some .int) (hc : cs ≤ B.room.cells) (hs : sl ≤ B.room.slots) (hQ : Q (some (.int z)) h) : WP l B Z n0 Q h cs sl pc ls (.int z :: st) := by
  intro p e s m args below meth c T L C X hT N hn
  obtain ⟨hx, hZ, hown, hby, hml, hret, hlk, hnm⟩ := C
  obtain ⟨fs, hrr, hrun, hended, hW, hsame⟩ := X.leave (v := some (.int z)) (fun q => by rw [hret, hr] at q; cases q) hlk
  have hh : (T.setFrames fs).heap = h := hT
  exact ⟨T.setFrames fs, _, L, retOut X hx (hret.trans hr) rfl (Or.inl ⟨rfl, Or.inl rfl, z, rfl⟩) (hb hby hd) hrr, hrun, hended, by rw [hh]; exact hQ, N, by rw [hh]; exact hn, ⟨_, rfl⟩, hW, hsame.mono hc hs⟩
theorem WP.retN {z : Int32} {t : FieldType} (hd : decode B.bytes pc = .ok (.ireturn, 1)) (hr : B.ret = some t) (ht : t = .boolean ∨ t = .byte ∨ t = .char ∨ t = .short) (hc : cs ≤ B.room.cells) (hs : sl ≤ B.room.slots) (hQ : Q (some (.int (nar t z))) h) : WP l B Z n0 Q h cs sl pc ls (.int z :: st) := by
  intro p e s m args below meth c T L C X hT N hn
  obtain ⟨hx, hZ, hown, hby, hml, hret, hlk, hnm⟩ := C
  obtain ⟨fs, hrr, hrun, hended, hW, hsame⟩ := X.leave (v := some (.int (nar t z))) (fun q => by rw [hret, hr] at q; cases q) hlk
  have hh : (T.setFrames fs).heap = h := hT
  exact ⟨T.setFrames fs, _, L, Jvm.RoadKit.retN X hx (hret.trans hr) ht (hb hby hd) hrr, hrun, hended, by rw [hh]; exact hQ, N, by rw [hh]; exact hn, ⟨_, rfl⟩, hW, hsame.mono hc hs⟩
theorem WP.retJ {z : Int64} (hd : decode B.bytes pc = .ok (.lreturn, 1)) (hr : B.ret = some .long) (hc : cs ≤ B.room.cells) (hs : sl ≤ B.room.slots) (hQ : Q (some (.long z)) h) : WP l B Z n0 Q h cs sl pc ls (.long z :: st) := by
  intro p e s m args below meth c T L C X hT N hn
  obtain ⟨hx, hZ, hown, hby, hml, hret, hlk, hnm⟩ := C
  obtain ⟨fs, hrr, hrun, hended, hW, hsame⟩ := X.leave (v := some (.long z)) (fun q => by rw [hret, hr] at q; cases q) hlk
  have hh : (T.setFrames fs).heap = h := hT
  exact ⟨T.setFrames fs, _, L, retOut X hx (hret.trans hr) rfl (Or.inr (Or.inl ⟨rfl, rfl, z, rfl⟩)) (hb hby hd) hrr, hrun, hended, by rw [hh]; exact hQ, N, by rw [hh]; exact hn, ⟨_, rfl⟩, hW, hsame.mono hc hs⟩
theorem WP.retA {z : Value} {t : FieldType} (hd : decode B.bytes pc = .ok (.areturn, 1)) (hr : B.ret = some t) (ht : t.isReference = true) (hz : z.isRef = true) (hc : cs ≤ B.room.cells) (hs : sl ≤ B.room.slots) (hQ : Q (some z) h) : WP l B Z n0 Q h cs sl pc ls (z :: st) := by
  intro p e s m args below meth c T L C X hT N hn
  obtain ⟨hx, hZ, hown, hby, hml, hret, hlk, hnm⟩ := C
  obtain ⟨fs, hrr, hrun, hended, hW, hsame⟩ := X.leave (v := some z) (fun q => by rw [hret, hr] at q; cases q) hlk
  have hh : (T.setFrames fs).heap = h := hT
  have hnw : narrow t z = z := by rcases ref_cases hz with rfl | ⟨a, rfl⟩ <;> cases t <;> rfl
  exact ⟨T.setFrames fs, _, L, retOut X hx (hret.trans hr) hnw (Or.inr (Or.inr (Or.inr (Or.inr ⟨rfl, ht, hz⟩)))) (hb hby hd) hrr, hrun, hended, by rw [hh]; exact hQ, N, by rw [hh]; exact hn, ⟨_, rfl⟩, hW, hsame.mono hc hs⟩
/-! calls -/
theorem WP.callS {y : MethodName} {By : Bod} {as : List Value} {idx : Nat} {Qy : Option Value → Heap → Prop} {ps : List FieldType} {r : Option FieldType}
    (hd : decode B.bytes pc = .ok (.invokestatic idx, 3)) (w1 : (Cond.methodLink B.own idx y).before a0 Z = true) (w2 : (Cond.static y).before a0 Z = true) (w3 : (Cond.initialized y.cls).before a0 Z = true) (w4 : (Cond.code y By.bytes By.maxL By.ret).before a0 Z = true)
    (hy : y.cls ≠ "java/lang/invoke/MethodHandle" ∧ y.cls ≠ "java/lang/invoke/VarHandle") (hM : OMet l y By Z n0 as.toArray h Qy) (hpd : parseMethodDescriptor y.desc = some ⟨ps, r⟩) (hlen : as.length = ps.length) (hst : st = as.reverse ++ rest) (hls : ls.size = B.maxL)
    (hfr : By.room.frames + 1 ≤ B.room.frames) (hlo : (rest.map fun v => v.category).sum + (By.maxL + 11) + By.room.locals ≤ B.room.locals) (hc : cs + By.room.cells ≤ B.room.cells) (hs : sl + By.room.slots ≤ B.room.slots) (hp : pc + 3 = pc')
    (H : ∀ v h', Qy v h' → WP l B Z n0 Q h' (cs + By.room.cells) (sl + By.room.slots) pc' ls (v.toList ++ rest)) : WP l B Z n0 Q h cs sl pc ls st := by
  subst hp
  intro p e s m args below meth c T L C X hT N hn
  obtain ⟨hx, hZ, hown, hby, hml, hret, hlk, hnm⟩ := C
  obtain ⟨v, _, ⟨T1, L1, k1, n1⟩, -, X1, ⟨Lc, hQ, l1, y1, z1⟩, stp⟩ := Jvm.LawKit.callS X hx hown (mvT hZ w1) (mvT hZ w2) (mvT hZ w3) (mvT hZ w4) hy (backOf (W := (rest.map fun v => v.category).sum) (Q := fun v h' L => Qy v h' ∧ Fr n0 L ∧ n0 ≤ h'.size) (hM hn []) hZ w4 w3 hfr hlo) (g := mkF m pc ls st) rfl (by rw [hml]; exact hls) (argsL := as) (rest := rest) (lenOf hpd hlen) hst (by show 2 * 0 + _ ≤ _; omega) (hb hby hd) (fun _ _ => ⟨rfl, hT, hc, hs⟩)
  dsimp only [Pt.U, Pt.locs, Pt.cells, Pt.slots] at X1 l1 y1 z1 stp hQ
  subst l1 y1 z1
  obtain ⟨U, v', L', a1, rr⟩ := H v T1.heap hQ.1 p e s m args below meth c T1 _ ⟨hx, hZ, hown, hby, hml, hret, hlk, hnm⟩ X1 rfl (N.app hQ.2.1) hQ.2.2
  exact ⟨U, v', L', stp _ a1, rr⟩
theorem WP.callI {y : MethodName} {By : Bod} {as : List Value} {a : Addr} {idx : Nat} {Qy : Option Value → Heap → Prop} {ps : List FieldType} {r : Option FieldType}
    (hd : decode B.bytes pc = .ok (.invokespecial idx, 3)) (w1 : (Cond.methodLink B.own idx y).before a0 Z = true) (w2 : (Cond.instanceMethod y).before a0 Z = true) (w3 : (Cond.initialized y.cls).before a0 Z = true) (w4 : (Cond.code y By.bytes By.maxL By.ret).before a0 Z = true) (hyn : y.name = "<init>") (hyr : By.ret = none)
    (hy : y.cls ≠ "java/lang/invoke/MethodHandle" ∧ y.cls ≠ "java/lang/invoke/VarHandle") (hM : OMet l y By Z n0 (.ref a :: as).toArray h Qy) (hpd : parseMethodDescriptor y.desc = some ⟨ps, r⟩) (hlen : as.length = ps.length) (hst : st = as.reverse ++ .ref a :: rest) (hls : ls.size = B.maxL)
    (hfr : By.room.frames + 1 ≤ B.room.frames) (hlo : (rest.map fun v => v.category).sum + (By.maxL + 11) + By.room.locals ≤ B.room.locals) (hc : cs + By.room.cells ≤ B.room.cells) (hs : sl + By.room.slots ≤ B.room.slots) (hp : pc + 3 = pc')
    (H : ∀ v h', Qy v h' → WP l B Z n0 Q h' (cs + By.room.cells) (sl + By.room.slots) pc' ls (v.toList ++ rest)) : WP l B Z n0 Q h cs sl pc ls st := by
  subst hp
  intro p e s m args below meth c T L C X hT N hn
  obtain ⟨hx, hZ, hown, hby, hml, hret, hlk, hnm⟩ := C
  obtain ⟨v, _, ⟨T1, L1, k1, n1⟩, -, X1, ⟨Lc, hQ, l1, y1, z1⟩, stp⟩ := X.specialBack hx (y := y) hyn hown (mvT hZ w1) (mvT hZ w2) (mvT hZ (hyr ▸ w4)) hy (backOf (W := (rest.map fun v => v.category).sum) (Q := fun v h' L => Qy v h' ∧ Fr n0 L ∧ n0 ≤ h'.size) (hM hn []) hZ w4 w3 hfr hlo) (g := mkF m pc ls st) rfl (by rw [hml]; exact hls) (Steps.refl _) (a := a) (argsL := as) (rest := rest) (lenOf hpd hlen) hst (by show 2 * 0 + _ ≤ _; omega) (hb hby hd) (fun _ _ => ⟨rfl, hT, hc, hs⟩)
  dsimp only [Pt.U, Pt.locs, Pt.cells, Pt.slots] at X1 l1 y1 z1 stp hQ
  subst l1 y1 z1
  obtain ⟨U, v', L', a1, rr⟩ := H v T1.heap hQ.1 p e s m args below meth c T1 _ ⟨hx, hZ, hown, hby, hml, hret, hlk, hnm⟩ X1 rfl (N.app hQ.2.1) hQ.2.2
  exact ⟨U, v', L', stp.trans a1, rr⟩
theorem WP.callV {y z : MethodName} {By : Bod} {Cl : String} {as : List Value} {a : Addr} {idx : Nat} {Qy : Option Value → Heap → Prop} {ps : List FieldType} {r : Option FieldType}
    (hd : decode B.bytes pc = .ok (.invokevirtual idx, 3)) (w1 : (Cond.methodLink B.own idx y).before a0 Z = true) (w2 : (Cond.declares y).before a0 Z = true) (w5 : (Cond.selects Cl y z).before a0 Z = true) (w6 : (Cond.instanceMethod z).before a0 Z = true) (w3 : (Cond.initialized z.cls).before a0 Z = true) (w4 : (Cond.code z By.bytes By.maxL By.ret).before a0 Z = true) (hyz : y = z) (hcl : Cl = y.cls)
    (hy : y.cls ≠ "java/lang/invoke/MethodHandle" ∧ y.cls ≠ "java/lang/invoke/VarHandle") (E : Exa Z h a Cl) (hM : OMet l z By Z n0 (.ref a :: as).toArray h Qy) (hpd : parseMethodDescriptor y.desc = some ⟨ps, r⟩) (hlen : as.length = ps.length) (hst : st = as.reverse ++ .ref a :: rest) (hls : ls.size = B.maxL)
    (hfr : By.room.frames + 1 ≤ B.room.frames) (hlo : (rest.map fun v => v.category).sum + (By.maxL + 11) + By.room.locals ≤ B.room.locals) (hc : cs + By.room.cells ≤ B.room.cells) (hs : sl + By.room.slots ≤ B.room.slots) (hp : pc + 3 = pc')
    (H : ∀ v h', Qy v h' → WP l B Z n0 Q h' (cs + By.room.cells) (sl + By.room.slots) pc' ls (v.toList ++ rest)) : WP l B Z n0 Q h cs sl pc ls st := by
  subst hp hyz hcl
  intro p e s m args below meth c T L C X hT N hn
  obtain ⟨hx, hZ, hown, hby, hml, hret, hlk, hnm⟩ := C
  obtain ⟨cq, kq, qa, qb, qc⟩ := isOf (T := T) hZ hT E
  obtain ⟨v, _, ⟨T1, L1, k1, n1⟩, -, X1, ⟨Lc, hQ, l1, y1, z1⟩, stp⟩ := X.virtualBack hx (y := y) (z := y) hown (mvT hZ w1) (mvT hZ w2) (notFace_of_selects (args := #[]) (mvT hZ w5)) (mvT hZ w5) (mvT hZ w6) hy (backOf (W := (rest.map fun v => v.category).sum) (Q := fun v h' L => Qy v h' ∧ Fr n0 L ∧ n0 ≤ h'.size) (hM hn []) hZ w4 w3 hfr hlo) qa qc (g := mkF m pc ls st) rfl (by rw [hml]; exact hls) (Steps.refl _) (argsL := as) (rest := rest) (lenOf hpd hlen) hst (by show 2 * 0 + _ ≤ _; omega) (hb hby hd) (fun _ _ => ⟨rfl, hT, hc, hs⟩)
  dsimp only [Pt.U, Pt.locs, Pt.cells, Pt.slots] at X1 l1 y1 z1 stp hQ
  subst l1 y1 z1
  obtain ⟨U, v', L', a1, rr⟩ := H v T1.heap hQ.1 p e s m args below meth c T1 _ ⟨hx, hZ, hown, hby, hml, hret, hlk, hnm⟩ X1 rfl (N.app hQ.2.1) hQ.2.2
  exact ⟨U, v', L', stp.trans a1, rr⟩
/-- Object.<init> -/
theorem WP.initO {a : Addr} {idx : Nat} (hd : decode B.bytes pc = .ok (.invokespecial idx, 3)) (w1 : (Cond.methodLink B.own idx Lib.objectInit).before a0 Z = true) (w2 : (Cond.instanceMethod Lib.objectInit).before a0 Z = true) (w3 : (Cond.code Lib.objectInit ⟨#[0xb1]⟩ 1 none).before a0 Z = true) (hls : ls.size = B.maxL) (hf : 1 ≤ B.room.frames) (hl : (rest.map fun v => v.category).sum + 12 ≤ B.room.locals) (hp : pc + 3 = pc')
    (H : WP l B Z n0 Q h cs sl pc' ls rest) : WP l B Z n0 Q h cs sl pc ls (.ref a :: rest) := by
  subst hp
  intro p e s m args below meth c T L C X hT N hn
  obtain ⟨hx, hZ, hown, hby, hml, hret, hlk, hnm⟩ := C
  obtain ⟨T1, X1, e1, stp⟩ := Jvm.RoadKit.initO X hx hZ hown w1 w2 w3 hT (g := mkF m pc ls (.ref a :: rest)) rfl (by rw [hml]; exact hls) rfl (hb hby hd) hf (W := (rest.map fun v => v.category).sum) (by show 2 * 0 + _ ≤ _; omega) hl
  obtain ⟨U, v', L', a1, rr⟩ := H p e s m args below meth c T1 _ ⟨hx, hZ, hown, hby, hml, hret, hlk, hnm⟩ X1 e1 N hn
  exact ⟨U, v', L', stp _ a1, rr⟩
/-! arrays: what one holds, place by place -/
def Av (Z : State) (h : Heap) (a : Addr) (ty : FieldType) (vs : List Value) : Prop := ∃ c : Cell, Arr Z h a c ty ∧ c.slots.toList = vs ∧ vs.length < 2 ^ 31
variable {a b : Addr} {ty : FieldType} {vs : List Value} {h' : Heap} {ws : List Addr}
theorem Av.lt (A : Av Z h a ty vs) : a < h.size := by obtain ⟨c, q, -⟩ := A; exact q.lt
theorem Av.keep (A : Av Z h a ty vs) (K : Keep h h' ws) (q : a ∉ ws) : Av Z h' a ty vs := by obtain ⟨c, A, r⟩ := A; exact ⟨c, ⟨K.2.1 a c A.1 q, A.2⟩, r⟩
theorem Av.len (A : Av Z h a ty vs) : vs.length < 2 ^ 31 := by obtain ⟨c, A, r, q⟩ := A; exact q
theorem own_idx {j : Int32} {i : Nat} (hj : j.toInt = (i : Int)) : j.toNatClampNeg = i ∧ ¬ j < 0 := by
  refine ⟨by simp [Int32.toNatClampNeg, hj], fun q => ?_⟩
  rw [Int32.lt_iff_toInt_lt] at q
  have : (0 : Int32).toInt = 0 := rfl
  omega
theorem Av.place {j : Int32} {i : Nat} {v : Value} {c : Cell} (e : c.slots.toList = vs) (hj : j.toInt = (i : Int)) (hv : vs[i]? = some v) : ¬ (j < 0 ∨ c.slots.size ≤ j.toNatClampNeg) ∧ c.slots[j.toNatClampNeg]? = some v := by
  obtain ⟨q1, q2⟩ := own_idx hj
  subst e
  rw [q1]
  have q3 : c.slots[i]? = some v := by simpa using hv
  refine ⟨fun q => q.elim q2 fun q => ?_, q3⟩
  have := (Array.getElem?_eq_some_iff.mp q3).1
  omega
theorem Keep.of_ext (E : Ext h h') : Keep h h' [] := (Keep.refl h []).ext E
theorem Av.set {i : Nat} {v : Value} {sl : Nat} (A : Av Z h a ty vs) (W : Wr h h' a sl v) (e : sl = i) : Av Z h' a ty (vs.set i v) := by
  subst e
  obtain ⟨c, A, r, q⟩ := A
  refine ⟨_, A.same W, ?_, by simpa using q⟩
  simp [Cell.setSlot, r]
theorem WP.newarr {aty : ArrayType} {n : Int32} {k : Nat} (hd : decode B.bytes pc = .ok (.newarray aty, 2)) (w : (Cond.arrayClass (newarray.typeOf aty)).before a0 Z = true) (hn : n.toInt = (k : Int)) (cap : Nat) (hcap : k ≤ cap) (hbig : cap * 8 ≤ 536870912) (hc : cs + 1 ≤ B.room.cells) (hs : sl + cap ≤ B.room.slots) (hp : pc + 2 = pc')
    (H : ∀ b h', b = h.size → n0 ≤ b → Keep h h' [] → Av Z h' b (newarray.typeOf aty) (List.replicate k (defaultValue (newarray.typeOf aty))) → WP l B Z n0 Q h' (cs + 1) (sl + cap) pc' ls (.ref b :: st)) : WP l B Z n0 Q h cs sl pc ls (.int n :: st) := by
  subst hp
  obtain ⟨q1, q2⟩ := own_idx hn
  refine WP.stepT (P := fun h' => Keep h h' [] ∧ n0 ≤ h.size ∧ Av Z h' h.size (newarray.typeOf aty) (List.replicate k (defaultValue (newarray.typeOf aty)))) ?_ (fun h' q => H h.size h' rfl q.2.1 q.1 q.2.2)
  intro p e s m args below meth c T L C X hT N hn'
  obtain ⟨T1, h1, cA, X1, e1, E1, A1, stp⟩ := newP X C.1 C.2.1 w hT (g := mkF m pc ls (.int n :: st)) rfl (hb C.2.2.2.1 hd) rfl q2 (cap := cap) (by omega) hbig hc hs
  refine ⟨T1, h1, L, X1, e1, N, Nat.le_trans hn' E1.1, ⟨Keep.of_ext E1, hn', _, A1, ?_, ?_⟩, stp⟩
  · simp [newA, q1]
  · simp; omega
theorem WP.alen {k : Int32} (hd : decode B.bytes pc = .ok (.arraylength, 1)) (A : Av Z h a ty vs) (hk : k.toInt = (vs.length : Int)) (hp : pc + 1 = pc') (H : WP l B Z n0 Q h cs sl pc' ls (.int k :: st)) : WP l B Z n0 Q h cs sl pc ls (.ref a :: st) := by
  subst hp
  obtain ⟨cl, A, r, q⟩ := A
  have e1 : cl.slots.size.toInt32 = k := by
    have e2 : cl.slots.size = vs.length := by rw [← r]; simp
    apply Int32.toInt_inj.mp
    rw [e2, hk]
    exact Int32.toInt_ofNat_of_lt q
  exact WP.step (fun p e s m args below meth c T L C X hT target k' => X.arraylength C.1 (by rw [hT]; exact A.1) (State.isArrayOf_alike C.2.1.alike A.2.1) (g := mkF m pc ls (.ref a :: st)) rfl rfl (hb C.2.2.2.1 hd) _ (by rw [e1]; exact k')) H
theorem WP.iaload {j : Int32} {x : Int32} (i : Nat) (hd : decode B.bytes pc = .ok (.iaload, 1)) (A : Av Z h a .int vs) (hj : j.toInt = (i : Int)) (hv : vs[i]? = some (.int x)) (hp : pc + 1 = pc') (H : WP l B Z n0 Q h cs sl pc' ls (.int x :: st)) : WP l B Z n0 Q h cs sl pc ls (.int j :: .ref a :: st) := by
  subst hp
  obtain ⟨cl, A, r, q⟩ := A
  obtain ⟨g1, g2⟩ := Av.place r hj hv
  exact WP.step (fun p e s m args below meth c T L C X hT target k' => X.iaload C.1 (by rw [hT]; exact A.1) (State.isArrayOf_alike C.2.1.alike A.2.1) A.2.2 g1 g2 (g := mkF m pc ls (.int j :: .ref a :: st)) rfl rfl (hb C.2.2.2.1 hd) _ k') H
theorem WP.laload {j : Int32} {x : Int64} (i : Nat) (hd : decode B.bytes pc = .ok (.laload, 1)) (A : Av Z h a .long vs) (hj : j.toInt = (i : Int)) (hv : vs[i]? = some (.long x)) (hp : pc + 1 = pc') (H : WP l B Z n0 Q h cs sl pc' ls (.long x :: st)) : WP l B Z n0 Q h cs sl pc ls (.int j :: .ref a :: st) := by
  subst hp
  obtain ⟨cl, A, r, q⟩ := A
  obtain ⟨g1, g2⟩ := Av.place r hj hv
  exact WP.step (fun p e s m args below meth c T L C X hT target k' => X.laload C.1 (by rw [hT]; exact A.1) (State.isArrayOf_alike C.2.1.alike A.2.1) A.2.2 g1 g2 (g := mkF m pc ls (.int j :: .ref a :: st)) rfl rfl (hb C.2.2.2.1 hd) _ k') H
theorem WP.caload {j : Int32} {x : Int32} (i : Nat) (hd : decode B.bytes pc = .ok (.caload, 1)) (A : Av Z h a .char vs) (hj : j.toInt = (i : Int)) (hv : vs[i]? = some (.int x)) (hp : pc + 1 = pc') (H : WP l B Z n0 Q h cs sl pc' ls (.int x :: st)) : WP l B Z n0 Q h cs sl pc ls (.int j :: .ref a :: st) := by
  subst hp
  obtain ⟨cl, A, r, q⟩ := A
  obtain ⟨g1, g2⟩ := Av.place r hj hv
  exact WP.step (fun p e s m args below meth c T L C X hT target k' => X.caload C.1 (by rw [hT]; exact A.1) (State.isArrayOf_alike C.2.1.alike A.2.1) A.2.2 g1 g2 (g := mkF m pc ls (.int j :: .ref a :: st)) rfl rfl (hb C.2.2.2.1 hd) _ k') H
theorem WP.baloadB {j : Int32} {x : Int32} (i : Nat) (hd : decode B.bytes pc = .ok (.baload, 1)) (A : Av Z h a .byte vs) (hj : j.toInt = (i : Int)) (hv : vs[i]? = some (.int x)) (hp : pc + 1 = pc') (H : WP l B Z n0 Q h cs sl pc' ls (.int x :: st)) : WP l B Z n0 Q h cs sl pc ls (.int j :: .ref a :: st) := by
  subst hp
  obtain ⟨cl, A, r, q⟩ := A
  obtain ⟨g1, g2⟩ := Av.place r hj hv
  exact WP.step (fun p e s m args below meth c T L C X hT target k' => X.baloadBytes C.1 (by rw [hT]; exact A.1) (State.isArrayOf_alike C.2.1.alike A.2.1) A.2.2 g1 g2 (g := mkF m pc ls (.int j :: .ref a :: st)) rfl rfl (hb C.2.2.2.1 hd) _ k') H
theorem WP.baloadZ {j : Int32} {x : Int32} (i : Nat) (hd : decode B.bytes pc = .ok (.baload, 1)) (A : Av Z h a .boolean vs) (hj : j.toInt = (i : Int)) (hv : vs[i]? = some (.int x)) (hp : pc + 1 = pc') (H : WP l B Z n0 Q h cs sl pc' ls (.int x :: st)) : WP l B Z n0 Q h cs sl pc ls (.int j :: .ref a :: st) := by
  subst hp
  obtain ⟨cl, A, r, q⟩ := A
  obtain ⟨g1, g2⟩ := Av.place r hj hv
  exact WP.step (fun p e s m args below meth c T L C X hT target k' => X.baloadBooleans C.1 (by rw [hT]; exact A.1) (State.isArrayOf_alike C.2.1.alike A.2.1) A.2.2 g1 g2 (g := mkF m pc ls (.int j :: .ref a :: st)) rfl rfl (hb C.2.2.2.1 hd) _ k') H
theorem WP.aaload {j : Int32} {x : Value} (i : Nat) (hd : decode B.bytes pc = .ok (.aaload, 1)) (A : Av Z h a ty vs) (hty : ty.isReference = true) (hj : j.toInt = (i : Int)) (hv : vs[i]? = some x) (hp : pc + 1 = pc') (H : WP l B Z n0 Q h cs sl pc' ls (x :: st)) : WP l B Z n0 Q h cs sl pc ls (.int j :: .ref a :: st) := by
  subst hp
  obtain ⟨cl, A, r, q⟩ := A
  obtain ⟨g1, g2⟩ := Av.place r hj hv
  exact WP.step (fun p e s m args below meth c T L C X hT target k' => X.aaload C.1 (by rw [hT]; exact A.1) (State.isArrayOf_alike C.2.1.alike A.2.1) hty A.2.2 g1 g2 (g := mkF m pc ls (.int j :: .ref a :: st)) rfl rfl (hb C.2.2.2.1 hd) _ k') H
theorem WP.iastore {j : Int32} {x : Int32} (i : Nat) (hd : decode B.bytes pc = .ok (.iastore, 1)) (A : Av Z h a .int vs) (hj : j.toInt = (i : Int)) (hi : i < vs.length) (ha : n0 ≤ a) (hp : pc + 1 = pc') (H : ∀ h', Keep h h' [a] → Av Z h' a .int (vs.set i (.int x)) → WP l B Z n0 Q h' cs sl pc' ls st) : WP l B Z n0 Q h cs sl pc ls (.int x :: .int j :: .ref a :: st) := by
  subst hp
  obtain ⟨cl, Ar, r, q⟩ := id A
  obtain ⟨g1, -⟩ := Av.place r hj (List.getElem?_eq_getElem hi)
  refine WP.stepT (P := fun h' => Keep h h' [a] ∧ Av Z h' a .int (vs.set i (.int x))) ?_ (fun h' q => H h' q.1 q.2)
  intro p e s m args below meth c T L C X hT N hn'
  obtain ⟨T1, h1, X1, e1, W1, stp⟩ := stI X C.1 C.2.1 hT Ar g1 (g := mkF m pc ls (.int x :: .int j :: .ref a :: st)) rfl rfl (hb C.2.2.2.1 hd)
  exact ⟨T1, h1, _, X1, e1, Fr.snoc X1 N ha, by rw [W1.size]; exact hn', ⟨Keep.of_wr W1, A.set W1 (own_idx hj).1⟩, stp⟩
theorem WP.lastore {j : Int32} {x : Int64} (i : Nat) (hd : decode B.bytes pc = .ok (.lastore, 1)) (A : Av Z h a .long vs) (hj : j.toInt = (i : Int)) (hi : i < vs.length) (ha : n0 ≤ a) (hp : pc + 1 = pc') (H : ∀ h', Keep h h' [a] → Av Z h' a .long (vs.set i (.long x)) → WP l B Z n0 Q h' cs sl pc' ls st) : WP l B Z n0 Q h cs sl pc ls (.long x :: .int j :: .ref a :: st) := by
  subst hp
  obtain ⟨cl, Ar, r, q⟩ := id A
  obtain ⟨g1, -⟩ := Av.place r hj (List.getElem?_eq_getElem hi)
  refine WP.stepT (P := fun h' => Keep h h' [a] ∧ Av Z h' a .long (vs.set i (.long x))) ?_ (fun h' q => H h' q.1 q.2)
  intro p e s m args below meth c T L C X hT N hn'
  obtain ⟨T1, h1, X1, e1, W1, stp⟩ := stJ X C.1 C.2.1 hT Ar g1 (g := mkF m pc ls (.long x :: .int j :: .ref a :: st)) rfl rfl (hb C.2.2.2.1 hd)
  exact ⟨T1, h1, _, X1, e1, Fr.snoc X1 N ha, by rw [W1.size]; exact hn', ⟨Keep.of_wr W1, A.set W1 (own_idx hj).1⟩, stp⟩
theorem WP.castore {j : Int32} {x : Int32} (i : Nat) (hd : decode B.bytes pc = .ok (.castore, 1)) (A : Av Z h a .char vs) (hj : j.toInt = (i : Int)) (hi : i < vs.length) (ha : n0 ≤ a) (hp : pc + 1 = pc') (H : ∀ h', Keep h h' [a] → Av Z h' a .char (vs.set i (.int (nar .char x))) → WP l B Z n0 Q h' cs sl pc' ls st) : WP l B Z n0 Q h cs sl pc ls (.int x :: .int j :: .ref a :: st) := by
  subst hp
  obtain ⟨cl, Ar, r, q⟩ := id A
  obtain ⟨g1, -⟩ := Av.place r hj (List.getElem?_eq_getElem hi)
  refine WP.stepT (P := fun h' => Keep h h' [a] ∧ Av Z h' a .char (vs.set i (.int (nar .char x)))) ?_ (fun h' q => H h' q.1 q.2)
  intro p e s m args below meth c T L C X hT N hn'
  obtain ⟨T1, h1, X1, e1, W1, stp⟩ := stC X C.1 C.2.1 hT Ar g1 (g := mkF m pc ls (.int x :: .int j :: .ref a :: st)) rfl rfl (hb C.2.2.2.1 hd)
  exact ⟨T1, h1, _, X1, e1, Fr.snoc X1 N ha, by rw [W1.size]; exact hn', ⟨Keep.of_wr W1, A.set W1 (own_idx hj).1⟩, stp⟩
theorem WP.bastoreB {j : Int32} {x : Int32} (i : Nat) (hd : decode B.bytes pc = .ok (.bastore, 1)) (A : Av Z h a .byte vs) (hj : j.toInt = (i : Int)) (hi : i < vs.length) (ha : n0 ≤ a) (hp : pc + 1 = pc') (H : ∀ h', Keep h h' [a] → Av Z h' a .byte (vs.set i (.int (nar .byte x))) → WP l B Z n0 Q h' cs sl pc' ls st) : WP l B Z n0 Q h cs sl pc ls (.int x :: .int j :: .ref a :: st) := by
  subst hp
  obtain ⟨cl, Ar, r, q⟩ := id A
  obtain ⟨g1, -⟩ := Av.place r hj (List.getElem?_eq_getElem hi)
  refine WP.stepT (P := fun h' => Keep h h' [a] ∧ Av Z h' a .byte (vs.set i (.int (nar .byte x)))) ?_ (fun h' q => H h' q.1 q.2)
  intro p e s m args below meth c T L C X hT N hn'
  obtain ⟨T1, h1, X1, e1, W1, stp⟩ := stB X C.1 C.2.1 hT Ar g1 (g := mkF m pc ls (.int x :: .int j :: .ref a :: st)) rfl rfl (hb C.2.2.2.1 hd)
  exact ⟨T1, h1, _, X1, e1, Fr.snoc X1 N ha, by rw [W1.size]; exact hn', ⟨Keep.of_wr W1, A.set W1 (own_idx hj).1⟩, stp⟩
theorem WP.bastoreZ {j : Int32} {x : Int32} (i : Nat) (hd : decode B.bytes pc = .ok (.bastore, 1)) (A : Av Z h a .boolean vs) (hj : j.toInt = (i : Int)) (hi : i < vs.length) (ha : n0 ≤ a) (hp : pc + 1 = pc') (H : ∀ h', Keep h h' [a] → Av Z h' a .boolean (vs.set i (.int (nar .boolean x))) → WP l B Z n0 Q h' cs sl pc' ls st) : WP l B Z n0 Q h cs sl pc ls (.int x :: .int j :: .ref a :: st) := by
  subst hp
  obtain ⟨cl, Ar, r, q⟩ := id A
  obtain ⟨g1, -⟩ := Av.place r hj (List.getElem?_eq_getElem hi)
  refine WP.stepT (P := fun h' => Keep h h' [a] ∧ Av Z h' a .boolean (vs.set i (.int (nar .boolean x)))) ?_ (fun h' q => H h' q.1 q.2)
  intro p e s m args below meth c T L C X hT N hn'
  obtain ⟨T1, h1, X1, e1, W1, stp⟩ := stZ X C.1 C.2.1 hT Ar g1 (g := mkF m pc ls (.int x :: .int j :: .ref a :: st)) rfl rfl (hb C.2.2.2.1 hd)
  exact ⟨T1, h1, _, X1, e1, Fr.snoc X1 N ha, by rw [W1.size]; exact hn', ⟨Keep.of_wr W1, A.set W1 (own_idx hj).1⟩, stp⟩
/-! objects: the fields that the sheet lays, in one list -/
abbrev OLay : Type := List (String × String × String)
def Ob (Z : State) (h : Heap) (a : Addr) (C : String) (lay : OLay) (vs : List Value) : Prop := Exa Z h a C ∧ lay.length = vs.length ∧ ∀ (i : Nat) (O n d : String) (v : Value), lay[i]? = some (O, n, d) → vs[i]? = some v → Fld Z h a O n d v
def OLaids (Z : State) (a0 : Array Value) (C : String) (lay : OLay) : Prop := ∀ q ∈ lay, Laid Z a0 C q.1 q.2.1 q.2.2 ∧ ∃ t, parseFieldDescriptor q.2.2 = some t
variable {Cl O n d : String} {lay : OLay} {v : Value}
theorem Ob.lt (A : Ob Z h a Cl lay vs) : a < h.size := A.1.lt
theorem Ob.keep (A : Ob Z h a Cl lay vs) (K : Keep h h' ws) (q : a ∉ ws) : Ob Z h' a Cl lay vs := ⟨A.1.keep K, A.2.1, fun i O n d v h1 h2 => (A.2.2 i O n d v h1 h2).keep K q⟩
theorem Ob.fld (A : Ob Z h a Cl lay vs) (i : Nat) (h1 : lay[i]? = some (O, n, d)) (h2 : vs[i]? = some v) : Fld Z h a O n d v := A.2.2 i O n d v h1 h2
theorem Ob.put {i : Nat} (A : Ob Z h a Cl lay vs) (La : OLaids Z a0 Cl lay) (hnd : (lay.map fun q => q.2.1).Nodup) (h1 : lay[i]? = some (O, n, d)) (W : Wr h h' a (Jvm.RoadKit.slotOf Z O n d) v) : Ob Z h' a Cl lay (vs.set i v) := by
  refine ⟨A.1.wr W, by simpa using A.2.1, fun j O' n' d' v' g1 g2 => ?_⟩
  by_cases e : i = j
  · subst e
    cases h1.symm.trans g1
    have hi : i < vs.length := by rw [← A.2.1]; exact (List.getElem?_eq_some_iff.mp h1).1
    rw [List.getElem?_set_self hi] at g2
    cases g2
    exact (A.fld i h1 (List.getElem?_eq_getElem hi)).same W
  · rw [List.getElem?_set_ne e] at g2
    refine (A.fld j g1 g2).other W (Or.inr ?_)
    obtain ⟨l1, t1, p1⟩ := La _ (List.mem_of_getElem? g1)
    obtain ⟨l2, t2, p2⟩ := La _ (List.mem_of_getElem? h1)
    refine slot_ne l1 l2 (fun q => ?_) p1 p2
    have k1 : (lay.map fun q => q.2.1)[j]? = some n' := by simp [g1]
    have k2 : (lay.map fun q => q.2.1)[i]? = some n := by simp [h1]
    obtain ⟨m1, f1⟩ := List.getElem?_eq_some_iff.mp k1
    obtain ⟨m2, f2⟩ := List.getElem?_eq_some_iff.mp k2
    have pw := List.pairwise_iff_getElem.mp hnd
    rcases Nat.lt_or_gt_of_ne e with c | c
    · exact pw i j m2 m1 c (f2.trans ((show n = n' from q.symm).trans f1.symm))
    · exact pw j i m1 m2 c (f1.trans ((show n' = n from q).trans f2.symm))
theorem WP.getf {idx i : Nat} (hd : decode B.bytes pc = .ok (.getfield idx, 3)) (w : (Cond.fieldLink B.own idx O n d).before a0 Z = true) (A : Ob Z h a Cl lay vs) (h1 : lay[i]? = some (O, n, d)) (h2 : vs[i]? = some v) (hp : pc + 3 = pc') (H : WP l B Z n0 Q h cs sl pc' ls (v :: st)) : WP l B Z n0 Q h cs sl pc ls (.ref a :: st) := by
  subst hp
  intro p e s m args below meth c T L C X hT N hn
  obtain ⟨T1, X1, e1, stp⟩ := getF X C.1 C.2.1 C.2.2.1 (host := "") (Or.inl w) Via.refl hT (A.fld i h1 h2) (g := mkF m pc ls (.ref a :: st)) rfl rfl (hb C.2.2.2.1 hd)
  obtain ⟨U, v', L', a1, rr⟩ := H p e s m args below meth c T1 _ C X1 e1 N hn
  exact ⟨U, v', L', stp _ a1, rr⟩
theorem WP.putf {idx i kk : Nat} {t : FieldType} (hd : decode B.bytes pc = .ok (.putfield idx, 3)) (w : (Cond.fieldLink B.own idx O n d).before a0 Z = true) (A : Ob Z h a Cl lay vs) (La : OLaids Z a0 Cl lay) (hnd : (lay.map fun q => q.2.1).Nodup) (h1 : lay[i]? = some (O, n, d))
    (hL : (Cond.lays Cl O n d).before a0 Z = true ∨ ((Cond.laysFinal Cl O n d).before a0 Z = true ∧ B.own = O ∧ B.mname = "<init>")) (wi : (Cond.instantiable Cl kk).before a0 Z = true) (ht : parseFieldDescriptor d = some t) (hnw : narrow t v = v) (hf : fits t v = true) (ha : n0 ≤ a) (hp : pc + 3 = pc')
    (H : ∀ h', Keep h h' [a] → Ob Z h' a Cl lay (vs.set i v) → WP l B Z n0 Q h' cs sl pc' ls st) : WP l B Z n0 Q h cs sl pc ls (v :: .ref a :: st) := by
  subst hp
  have hi : i < vs.length := by rw [← A.2.1]; exact (List.getElem?_eq_some_iff.mp h1).1
  refine WP.stepT (P := fun h' => Keep h h' [a] ∧ Ob Z h' a Cl lay (vs.set i v)) ?_ (fun h' q => H h' q.1 q.2)
  intro p e s m args below meth c T L C X hT N hn'
  obtain ⟨T1, h2, X1, e1, W1, stp⟩ := putF X C.1 C.2.1 C.2.2.1 (host := "") (Or.inl w) Via.refl hT (A.fld i h1 (List.getElem?_eq_getElem hi)) A.1 (hL.imp id fun q => ⟨q.1, q.2.1, C.2.2.2.2.2.2.2.trans q.2.2⟩) wi ht hnw hf (g := mkF m pc ls (v :: .ref a :: st)) rfl rfl (hb C.2.2.2.1 hd)
  exact ⟨T1, h2, _, X1, e1, Fr.snoc X1 N ha, by rw [W1.size]; exact hn', ⟨Keep.of_wr W1, A.put La hnd h1 W1⟩, stp⟩
theorem WP.newobj {idx k : Nat} (hd : decode B.bytes pc = .ok (.new idx, 3)) (w : (Cond.classLink B.own idx Cl).before a0 Z = true) (wi : (Cond.instantiable Cl k).before a0 Z = true) (wz : (Cond.initialized Cl).before a0 Z = true) (La : OLaids Z a0 Cl lay) (hvs : lay.map (fun q => (parseFieldDescriptor q.2.2).map defaultValue) = vs.map some) (hc : cs + 1 ≤ B.room.cells) (hs : sl + k ≤ B.room.slots) (hp : pc + 3 = pc')
    (H : ∀ b h', b = h.size → n0 ≤ b → Keep h h' [] → Ob Z h' b Cl lay vs → WP l B Z n0 Q h' (cs + 1) (sl + k) pc' ls (.ref b :: st)) : WP l B Z n0 Q h cs sl pc ls st := by
  subst hp
  refine WP.stepT (P := fun h' => Keep h h' [] ∧ n0 ≤ h.size ∧ Ob Z h' h.size Cl lay vs) ?_ (fun h' q => H h.size h' rfl q.2.1 q.1 q.2.2)
  intro p e s m args below meth c T L C X hT N hn'
  obtain ⟨T1, h1, X1, e1, E1, A1, D1, -, stp⟩ := newO X C.1 C.2.1 C.2.2.1 w wi wz hT (g := mkF m pc ls st) rfl (hb C.2.2.2.1 hd) hc hs
  refine ⟨T1, h1, L, X1, e1, N, Nat.le_trans hn' E1.1, ⟨Keep.of_ext E1, hn', A1, by simpa using congrArg List.length hvs, fun i O n d v g1 g2 => ?_⟩, stp⟩
  obtain ⟨l1, t1, p1⟩ := La _ (List.mem_of_getElem? g1)
  have k1 := congrArg (fun z => z[i]?) hvs
  simp only [List.getElem?_map, g1, g2, Option.map_some] at k1
  rw [show parseFieldDescriptor d = some t1 from p1] at k1
  simp only [Option.map_some, Option.some.injEq] at k1
  rw [← k1]
  exact D1 l1 p1
end W
end Jvm.OwnWP
namespace Jvm.OwnWP
open Sem ClassFile Op Lib Jvm.RoadKit
theorem own_r32 (x : Int32) : -2147483648 ≤ x.toInt ∧ x.toInt < 2147483648 := ⟨x.le_toInt, x.toInt_lt⟩
theorem own_r64 (x : Int64) : -9223372036854775808 ≤ x.toInt ∧ x.toInt < 9223372036854775808 := ⟨x.le_toInt, x.toInt_lt⟩
theorem own_iadd {x y : Int32} (h1 : -2147483648 ≤ x.toInt + y.toInt) (h2 : x.toInt + y.toInt < 2147483648) : (x + y).toInt = x.toInt + y.toInt := by have := c_iadd x y; have := own_r32 (x + y); omega
theorem own_isub {x y : Int32} (h1 : -2147483648 ≤ x.toInt - y.toInt) (h2 : x.toInt - y.toInt < 2147483648) : (x - y).toInt = x.toInt - y.toInt := by have := c_isub x y; have := own_r32 (x - y); omega
theorem own_ladd {x y : Int64} (h1 : -9223372036854775808 ≤ x.toInt + y.toInt) (h2 : x.toInt + y.toInt < 9223372036854775808) : (x + y).toInt = x.toInt + y.toInt := by have := c_ladd x y; have := own_r64 (x + y); omega
theorem own_lsub {x y : Int64} (h1 : -9223372036854775808 ≤ x.toInt - y.toInt) (h2 : x.toInt - y.toInt < 9223372036854775808) : (x - y).toInt = x.toInt - y.toInt := by have := c_lsub x y; have := own_r64 (x - y); omega
theorem own_mask (x m : Int32) (k : Nat) (P : Int) (hk : k ≤ 31) (hm : m.toBitVec.toNat = 2 ^ k - 1) (hP : ((2 ^ k : Nat) : Int) = P) : (x &&& m).toInt = x.toInt % P := by rw [← hP]; exact c_mask x m k hk hm
theorem own_maskL (x m : Int64) (k : Nat) (P : Int) (hk : k ≤ 63) (hm : m.toBitVec.toNat = 2 ^ k - 1) (hP : ((2 ^ k : Nat) : Int) = P) : (x &&& m).toInt = x.toInt % P := by rw [← hP]; exact c_maskL x m k hk hm
theorem own_irem {x y : Int32} {d : Int} (hy : y.toInt = d) (h0 : 0 ≤ x.toInt) : (x % y).toInt = x.toInt % d := (c_irem x y d hy).1 h0
theorem own_ushr (x q : Int32) (k : Nat) (P : Int) (hk : q.toBitVec.toNat % 32 = k) (h0 : 0 < k) (hP : ((2 ^ k : Nat) : Int) = P) : (ushr x q).toInt = (x.toInt % 4294967296) / P := by rw [← hP]; exact c_iushr x q k hk h0
theorem own_ishr (x q : Int32) (k : Nat) (P : Int) (hk : q.toBitVec.toNat % 32 = k) (hP : ((2 ^ k : Nat) : Int) = P) : (x >>> (q &&& 31)).toInt = x.toInt / P := by rw [← hP]; exact c_ishr x q k hk
theorem own_nar1 : nar .boolean 1 = 1 := by decide
theorem own_nar0 : nar .boolean 0 = 0 := by decide
theorem own_q1 : (some (Value.int (nar .boolean 1))) = some (Value.int 1) := congrArg (fun z => some (Value.int z)) own_nar1
theorem own_q0 : (some (Value.int (nar .boolean 0))) = some (Value.int 0) := congrArg (fun z => some (Value.int z)) own_nar0
theorem own_e32 {x y : Int32} (h : x.toInt = y.toInt) : x = y := Int32.toInt_inj.mp h
theorem own_e64 {x y : Int64} (h : x.toInt = y.toInt) : x = y := Int64.toInt_inj.mp h
end Jvm.OwnWP
namespace Jvm.OwnWP
theorem own_getI (xs : List Int32) (i : Nat) (h : i < xs.length) : ∃ y, (xs.map Value.int)[i]? = some (Value.int y) := ⟨xs[i], by simp [h]⟩
theorem own_getJ (xs : List Int64) (i : Nat) (h : i < xs.length) : ∃ y, (xs.map Value.long)[i]? = some (Value.long y) := ⟨xs[i], by simp [h]⟩
end Jvm.OwnWP
namespace Jvm.OwnWP
theorem own_nil {a : Addr} : a ∉ ([] : List Addr) := nofun
theorem own_cons {a b : Addr} {ws : List Addr} (h : a ≠ b) (h' : a ∉ ws) : a ∉ b :: ws := fun q => (List.mem_cons.mp q).elim h h'
end Jvm.OwnWP
namespace Jvm.OwnWP
theorem own_all0 {P : Addr → Prop} : ∀ x ∈ ([] : List Addr), P x := fun _ q => nomatch q
theorem own_all {P : Addr → Prop} {a : Addr} {ws : List Addr} (h : P a) (h' : ∀ x ∈ ws, P x) : ∀ x ∈ a :: ws, P x := fun x q => (List.mem_cons.mp q).elim (fun e => e ▸ h) (h' x)
end Jvm.OwnWP
namespace Jvm.OwnWP
open Sem ClassFile Op Lib Jvm.Stand Jvm.Free Jvm.LawKit Jvm.RoadKit
def own_fill : List Value → List Slot
  | [] => []
  | v :: r => if v.category = 2 then .val v :: .second :: own_fill r else .val v :: own_fill r
def own_push (acc : Array Slot) (v : Value) : Array Slot := if v.category = 2 then (acc.push (Slot.val v)).push Slot.second else acc.push (Slot.val v)
theorem own_fold (as : List Value) (acc : Array Slot) : as.foldl own_push acc = acc ++ (own_fill as).toArray := by
  induction as generalizing acc with
  | nil => simp [own_fill]
  | cons v r ih =>
    simp only [List.foldl_cons, own_fill]
    rw [ih]
    unfold own_push
    split <;> simp
theorem own_entry {m : MethodId} {as : List Value} {n : Nat} {fs : List Slot} (k : Nat) (h1 : own_fill as = fs) (h2 : fs.length + k = n) : entryFrame m as.toArray n = mkF m 0 (fs ++ List.replicate k Slot.unset).toArray [] := by
  subst h1 h2
  have e0 : as.toArray.foldl own_push #[] = (own_fill as).toArray := by
    simp only [List.size_toArray, List.foldl_toArray']
    rw [own_fold]; simp
  have e : argsToLocals as.toArray ((own_fill as).length + k) = (own_fill as ++ List.replicate k Slot.unset).toArray := by
    show as.toArray.foldl own_push #[] ++ Array.replicate ((own_fill as).length + k - (as.toArray.foldl own_push #[]).size) Slot.unset = _
    rw [e0]
    simp
  show ({ method := m, pc := 0, locals := argsToLocals as.toArray ((own_fill as).length + k), stack := [], locked := none } : JFrame) = _
  rw [e]
end Jvm.OwnWP
namespace Jvm.OwnWP
theorem own_nz {y : Int32} (h : y.toInt ≠ 0) : y ≠ 0 := fun q => h (by rw [q]; rfl)
theorem own_nzL {y : Int64} (h : y.toInt ≠ 0) : y ≠ 0 := fun q => h (by rw [q]; rfl)
end Jvm.OwnWP
namespace Jvm.OwnWP
open Sem ClassFile Op Lib Jvm.Stand Jvm.Free Jvm.LawKit Jvm.RoadKit
section W
variable {l : Launch} {B : Bod} {Z : State} {n0 : Nat} {Q : Option Value → Heap → Prop} {h : Heap} {cs sl pc pc' : Nat} {ls ls' : Array Slot} {st rest : List Value} {a0 : Array Value}
/-- a private method by invokevirtual; that its class is no interface is read off another 'selects' word of that class -/
theorem WP.callP {y y0 : MethodName} {By : Bod} {Cl : String} {as : List Value} {a : Addr} {idx : Nat} {Qy : Option Value → Heap → Prop} {ps : List FieldType} {r : Option FieldType}
    (hd : decode B.bytes pc = .ok (.invokevirtual idx, 3)) (w1 : (Cond.methodLink B.own idx y).before a0 Z = true) (w2 : (Cond.instanceMethod y).before a0 Z = true) (w5 : (Cond.privateMethod y).before a0 Z = true) (w6 : (Cond.selects Cl y0 y0).before a0 Z = true) (w3 : (Cond.initialized y.cls).before a0 Z = true) (w4 : (Cond.code y By.bytes By.maxL By.ret).before a0 Z = true) (hcl : y0.cls = y.cls)
    (hy : y.cls ≠ "java/lang/invoke/MethodHandle" ∧ y.cls ≠ "java/lang/invoke/VarHandle") {Ce : String} (E : Exa Z h a Ce) (hM : OMet l y By Z n0 (.ref a :: as).toArray h Qy) (hpd : parseMethodDescriptor y.desc = some ⟨ps, r⟩) (hlen : as.length = ps.length) (hst : st = as.reverse ++ .ref a :: rest) (hls : ls.size = B.maxL)
    (hfr : By.room.frames + 1 ≤ B.room.frames) (hlo : (rest.map fun v => v.category).sum + (By.maxL + 11) + By.room.locals ≤ B.room.locals) (hc : cs + By.room.cells ≤ B.room.cells) (hs : sl + By.room.slots ≤ B.room.slots) (hp : pc + 3 = pc')
    (H : ∀ v h', Qy v h' → WP l B Z n0 Q h' (cs + By.room.cells) (sl + By.room.slots) pc' ls (v.toList ++ rest)) : WP l B Z n0 Q h cs sl pc ls st := by
  subst hp
  intro p e s m args below meth c T L C X hT N hn
  obtain ⟨hx, hZ, hown, hby, hml, hret, hlk, hnm⟩ := C
  obtain ⟨cq, q1, q2⟩ := E.cell
  have hpr : s.PrivateAt y := Cond.privateMethod_at (mvP hZ w5 (args := #[]))
  have hsel : (Cond.selects y.cls y y).before args s = true := by
    obtain ⟨c2, r2, m2, -, -, q3, -, kP, hkP, hkPi⟩ := Cond.selects_spec (mvT (args := args) hZ w6)
    have hc2 := findClass_of_methodNamed q3
    rw [hcl] at hc2
    exact selects_self_of_private hc2 hkP hkPi hpr (mvT hZ w2) hy
  obtain ⟨v, _, ⟨T1, L1, k1, n1⟩, -, X1, ⟨Lc, hQ, l1, y1, z1⟩, stp⟩ := X.privateBack hx (y := y) hown (mvT hZ w1) (mvT hZ w2) hsel hpr (mvT hZ w4) hy (backOf (W := (rest.map fun v => v.category).sum) (Q := fun v h' L => Qy v h' ∧ Fr n0 L ∧ n0 ≤ h'.size) (hM hn []) hZ w4 w3 hfr hlo) (g := mkF m pc ls st) rfl (by rw [hml]; exact hls) (Steps.refl _) (a := a) (cell := cq) (by rw [hT]; exact q1) q2 (argsL := as) (rest := rest) (lenOf hpd hlen) hst (by show 2 * 0 + _ ≤ _; omega) (hb hby hd) (fun _ _ => ⟨rfl, hT, hc, hs⟩)
  dsimp only [Pt.U, Pt.locs, Pt.cells, Pt.slots] at X1 l1 y1 z1 stp hQ
  subst l1 y1 z1
  obtain ⟨U, v', L', a1, rr⟩ := H v T1.heap hQ.1 p e s m args below meth c T1 _ ⟨hx, hZ, hown, hby, hml, hret, hlk, hnm⟩ X1 rfl (N.app hQ.2.1) hQ.2.2
  exact ⟨U, v', L', stp.trans a1, rr⟩
end W
end Jvm.OwnWP


namespace Jvm.Pilot.@@N@@
open Jvm Jvm.ClassFile Sem Op Lib Jvm.Free Jvm.Stand Jvm.LawKit Jvm.RoadKit Jvm.OwnWP Bundle Jvm.Pilot.@@N@@.Jvm.D

abbrev HW (Z : State) (a0 : Array Value) : Prop := ∀ d ∈ tables_1, d.before a0 Z = true
theorem w0 {Z : State} {a0 : Array Value} (hw : HW Z a0) : ((Jvm.Cond.methodLink "com/example/stampwise/stampwise/history/CoverCountsCountPinLaw" (7 : Nat) ({ cls := "java/lang/Math", name := "min", desc := "(II)I" } : Jvm.MethodName))).before a0 Z = true := hw _ (List.mem_of_getElem? (i := 0) rfl)
theorem w1 {Z : State} {a0 : Array Value} (hw : HW Z a0) : ((Jvm.Cond.static ({ cls := "java/lang/Math", name := "min", desc := "(II)I" } : Jvm.MethodName))).before a0 Z = true := hw _ (List.mem_of_getElem? (i := 1) rfl)
theorem w2 {Z : State} {a0 : Array Value} (hw : HW Z a0) : ((Jvm.Cond.initialized "java/lang/Math")).before a0 Z = true := hw _ (List.mem_of_getElem? (i := 2) rfl)
theorem w3 {Z : State} {a0 : Array Value} (hw : HW Z a0) : ((Jvm.Cond.code ({ cls := "java/lang/Math", name := "min", desc := "(II)I" } : Jvm.MethodName) jdk_29_method_69_code (2 : Nat) (Option.some Jvm.ClassFile.FieldType.int))).before a0 Z = true := hw _ (List.mem_of_getElem? (i := 3) rfl)
theorem w4 {Z : State} {a0 : Array Value} (hw : HW Z a0) : ((Jvm.Cond.methodLink "com/example/stampwise/stampwise/history/CoverCountsCountPinLaw" (13 : Nat) ({ cls := "java/lang/Math", name := "max", desc := "(II)I" } : Jvm.MethodName))).before a0 Z = true := hw _ (List.mem_of_getElem? (i := 4) rfl)
theorem w5 {Z : State} {a0 : Array Value} (hw : HW Z a0) : ((Jvm.Cond.static ({ cls := "java/lang/Math", name := "max", desc := "(II)I" } : Jvm.MethodName))).before a0 Z = true := hw _ (List.mem_of_getElem? (i := 5) rfl)
theorem w6 {Z : State} {a0 : Array Value} (hw : HW Z a0) : ((Jvm.Cond.code ({ cls := "java/lang/Math", name := "max", desc := "(II)I" } : Jvm.MethodName) jdk_29_method_65_code (2 : Nat) (Option.some Jvm.ClassFile.FieldType.int))).before a0 Z = true := hw _ (List.mem_of_getElem? (i := 6) rfl)
theorem w7 {Z : State} {a0 : Array Value} (hw : HW Z a0) : ((Jvm.Cond.classLink "com/example/stampwise/stampwise/history/CoverCountsCountPinLaw" (16 : Nat) "com/example/stampwise/stampwise/history/CoverCounts")).before a0 Z = true := hw _ (List.mem_of_getElem? (i := 7) rfl)
theorem w8 {Z : State} {a0 : Array Value} (hw : HW Z a0) : ((Jvm.Cond.instantiable "com/example/stampwise/stampwise/history/CoverCounts" (1 : Nat))).before a0 Z = true := hw _ (List.mem_of_getElem? (i := 8) rfl)
theorem w9 {Z : State} {a0 : Array Value} (hw : HW Z a0) : ((Jvm.Cond.initialized "com/example/stampwise/stampwise/history/CoverCounts")).before a0 Z = true := hw _ (List.mem_of_getElem? (i := 9) rfl)
theorem w10 {Z : State} {a0 : Array Value} (hw : HW Z a0) : ((Jvm.Cond.methodLink "com/example/stampwise/stampwise/history/CoverCountsCountPinLaw" (18 : Nat) ({ cls := "com/example/stampwise/stampwise/history/CoverCounts", name := "<init>", desc := "(I)V" } : Jvm.MethodName))).before a0 Z = true := hw _ (List.mem_of_getElem? (i := 10) rfl)
theorem w11 {Z : State} {a0 : Array Value} (hw : HW Z a0) : ((Jvm.Cond.instanceMethod ({ cls := "com/example/stampwise/stampwise/history/CoverCounts", name := "<init>", desc := "(I)V" } : Jvm.MethodName))).before a0 Z = true := hw _ (List.mem_of_getElem? (i := 11) rfl)
theorem w12 {Z : State} {a0 : Array Value} (hw : HW Z a0) : ((Jvm.Cond.code ({ cls := "com/example/stampwise/stampwise/history/CoverCounts", name := "<init>", desc := "(I)V" } : Jvm.MethodName) prog_105_method_1_code (2 : Nat) (Option.none : Option Jvm.ClassFile.FieldType))).before a0 Z = true := hw _ (List.mem_of_getElem? (i := 12) rfl)
theorem w13 {Z : State} {a0 : Array Value} (hw : HW Z a0) : ((Jvm.Cond.methodLink "com/example/stampwise/stampwise/history/CoverCounts" (1 : Nat) ({ cls := "java/lang/Object", name := "<init>", desc := "()V" } : Jvm.MethodName))).before a0 Z = true := hw _ (List.mem_of_getElem? (i := 13) rfl)
theorem w14 {Z : State} {a0 : Array Value} (hw : HW Z a0) : ((Jvm.Cond.instanceMethod ({ cls := "java/lang/Object", name := "<init>", desc := "()V" } : Jvm.MethodName))).before a0 Z = true := hw _ (List.mem_of_getElem? (i := 14) rfl)
theorem w15 {Z : State} {a0 : Array Value} (hw : HW Z a0) : ((Jvm.Cond.code ({ cls := "java/lang/Object", name := "<init>", desc := "()V" } : Jvm.MethodName) object_method_1_code (1 : Nat) (Option.none : Option Jvm.ClassFile.FieldType))).before a0 Z = true := hw _ (List.mem_of_getElem? (i := 15) rfl)
theorem w16 {Z : State} {a0 : Array Value} (hw : HW Z a0) : ((Jvm.Cond.arrayClass Jvm.ClassFile.FieldType.int)).before a0 Z = true := hw _ (List.mem_of_getElem? (i := 16) rfl)
theorem w17 {Z : State} {a0 : Array Value} (hw : HW Z a0) : ((Jvm.Cond.fieldLink "com/example/stampwise/stampwise/history/CoverCounts" (7 : Nat) "com/example/stampwise/stampwise/history/CoverCounts" "differences" "[I")).before a0 Z = true := hw _ (List.mem_of_getElem? (i := 17) rfl)
theorem w18 {Z : State} {a0 : Array Value} (hw : HW Z a0) : ((Jvm.Cond.laysFinal "com/example/stampwise/stampwise/history/CoverCounts" "com/example/stampwise/stampwise/history/CoverCounts" "differences" "[I")).before a0 Z = true := hw _ (List.mem_of_getElem? (i := 18) rfl)
theorem w19 {Z : State} {a0 : Array Value} (hw : HW Z a0) : ((Jvm.Cond.methodLink "com/example/stampwise/stampwise/history/CoverCountsCountPinLaw" (21 : Nat) ({ cls := "com/example/stampwise/stampwise/history/CoverCounts", name := "add", desc := "(III)V" } : Jvm.MethodName))).before a0 Z = true := hw _ (List.mem_of_getElem? (i := 19) rfl)
theorem w20 {Z : State} {a0 : Array Value} (hw : HW Z a0) : ((Jvm.Cond.declares ({ cls := "com/example/stampwise/stampwise/history/CoverCounts", name := "add", desc := "(III)V" } : Jvm.MethodName))).before a0 Z = true := hw _ (List.mem_of_getElem? (i := 20) rfl)
theorem w21 {Z : State} {a0 : Array Value} (hw : HW Z a0) : ((Jvm.Cond.instanceMethod ({ cls := "com/example/stampwise/stampwise/history/CoverCounts", name := "add", desc := "(III)V" } : Jvm.MethodName))).before a0 Z = true := hw _ (List.mem_of_getElem? (i := 21) rfl)
theorem w22 {Z : State} {a0 : Array Value} (hw : HW Z a0) : ((Jvm.Cond.selects "com/example/stampwise/stampwise/history/CoverCounts" ({ cls := "com/example/stampwise/stampwise/history/CoverCounts", name := "add", desc := "(III)V" } : Jvm.MethodName) ({ cls := "com/example/stampwise/stampwise/history/CoverCounts", name := "add", desc := "(III)V" } : Jvm.MethodName))).before a0 Z = true := hw _ (List.mem_of_getElem? (i := 22) rfl)
theorem w23 {Z : State} {a0 : Array Value} (hw : HW Z a0) : ((Jvm.Cond.code ({ cls := "com/example/stampwise/stampwise/history/CoverCounts", name := "add", desc := "(III)V" } : Jvm.MethodName) prog_105_method_2_code (4 : Nat) (Option.none : Option Jvm.ClassFile.FieldType))).before a0 Z = true := hw _ (List.mem_of_getElem? (i := 23) rfl)
theorem w24 {Z : State} {a0 : Array Value} (hw : HW Z a0) : ((Jvm.Cond.methodLink "com/example/stampwise/stampwise/history/CoverCounts" (13 : Nat) ({ cls := "com/example/stampwise/stampwise/history/CoverCounts", name := "addFrom", desc := "(II)V" } : Jvm.MethodName))).before a0 Z = true := hw _ (List.mem_of_getElem? (i := 24) rfl)
theorem w25 {Z : State} {a0 : Array Value} (hw : HW Z a0) : ((Jvm.Cond.instanceMethod ({ cls := "com/example/stampwise/stampwise/history/CoverCounts", name := "addFrom", desc := "(II)V" } : Jvm.MethodName))).before a0 Z = true := hw _ (List.mem_of_getElem? (i := 25) rfl)
theorem w26 {Z : State} {a0 : Array Value} (hw : HW Z a0) : ((Jvm.Cond.privateMethod ({ cls := "com/example/stampwise/stampwise/history/CoverCounts", name := "addFrom", desc := "(II)V" } : Jvm.MethodName))).before a0 Z = true := hw _ (List.mem_of_getElem? (i := 26) rfl)
theorem w27 {Z : State} {a0 : Array Value} (hw : HW Z a0) : ((Jvm.Cond.code ({ cls := "com/example/stampwise/stampwise/history/CoverCounts", name := "addFrom", desc := "(II)V" } : Jvm.MethodName) prog_105_method_4_code (4 : Nat) (Option.none : Option Jvm.ClassFile.FieldType))).before a0 Z = true := hw _ (List.mem_of_getElem? (i := 27) rfl)
theorem w28 {Z : State} {a0 : Array Value} (hw : HW Z a0) : ((Jvm.Cond.methodLink "com/example/stampwise/stampwise/history/CoverCountsCountPinLaw" (25 : Nat) ({ cls := "com/example/stampwise/stampwise/history/CoverCountsCountPinLaw", name := "part", desc := "(IIII)I" } : Jvm.MethodName))).before a0 Z = true := hw _ (List.mem_of_getElem? (i := 28) rfl)
theorem w29 {Z : State} {a0 : Array Value} (hw : HW Z a0) : ((Jvm.Cond.static ({ cls := "com/example/stampwise/stampwise/history/CoverCountsCountPinLaw", name := "part", desc := "(IIII)I" } : Jvm.MethodName))).before a0 Z = true := hw _ (List.mem_of_getElem? (i := 29) rfl)
theorem w30 {Z : State} {a0 : Array Value} (hw : HW Z a0) : ((Jvm.Cond.initialized "com/example/stampwise/stampwise/history/CoverCountsCountPinLaw")).before a0 Z = true := hw _ (List.mem_of_getElem? (i := 30) rfl)
theorem w31 {Z : State} {a0 : Array Value} (hw : HW Z a0) : ((Jvm.Cond.code ({ cls := "com/example/stampwise/stampwise/history/CoverCountsCountPinLaw", name := "part", desc := "(IIII)I" } : Jvm.MethodName) method_2_code (4 : Nat) (Option.some Jvm.ClassFile.FieldType.int))).before a0 Z = true := hw _ (List.mem_of_getElem? (i := 31) rfl)
theorem w32 {Z : State} {a0 : Array Value} (hw : HW Z a0) : ((Jvm.Cond.methodLink "com/example/stampwise/stampwise/history/CoverCountsCountPinLaw" (31 : Nat) ({ cls := "com/example/stampwise/stampwise/history/CoverCounts", name := "count", desc := "(I)I" } : Jvm.MethodName))).before a0 Z = true := hw _ (List.mem_of_getElem? (i := 32) rfl)
theorem w33 {Z : State} {a0 : Array Value} (hw : HW Z a0) : ((Jvm.Cond.declares ({ cls := "com/example/stampwise/stampwise/history/CoverCounts", name := "count", desc := "(I)I" } : Jvm.MethodName))).before a0 Z = true := hw _ (List.mem_of_getElem? (i := 33) rfl)
theorem w34 {Z : State} {a0 : Array Value} (hw : HW Z a0) : ((Jvm.Cond.instanceMethod ({ cls := "com/example/stampwise/stampwise/history/CoverCounts", name := "count", desc := "(I)I" } : Jvm.MethodName))).before a0 Z = true := hw _ (List.mem_of_getElem? (i := 34) rfl)
theorem w35 {Z : State} {a0 : Array Value} (hw : HW Z a0) : ((Jvm.Cond.selects "com/example/stampwise/stampwise/history/CoverCounts" ({ cls := "com/example/stampwise/stampwise/history/CoverCounts", name := "count", desc := "(I)I" } : Jvm.MethodName) ({ cls := "com/example/stampwise/stampwise/history/CoverCounts", name := "count", desc := "(I)I" } : Jvm.MethodName))).before a0 Z = true := hw _ (List.mem_of_getElem? (i := 35) rfl)
theorem w36 {Z : State} {a0 : Array Value} (hw : HW Z a0) : ((Jvm.Cond.code ({ cls := "com/example/stampwise/stampwise/history/CoverCounts", name := "count", desc := "(I)I" } : Jvm.MethodName) prog_105_method_3_code (4 : Nat) (Option.some Jvm.ClassFile.FieldType.int))).before a0 Z = true := hw _ (List.mem_of_getElem? (i := 36) rfl)
theorem pd_0 : parseMethodDescriptor "(II)V" = some ⟨[.int, .int], none⟩ := by decide +kernel
theorem pd_1 : parseMethodDescriptor "(I)V" = some ⟨[.int], none⟩ := by decide +kernel
theorem pd_2 : parseMethodDescriptor "(III)V" = some ⟨[.int, .int, .int], none⟩ := by decide +kernel
theorem pd_3 : parseMethodDescriptor "(IIII)I" = some ⟨[.int, .int, .int, .int], some .int⟩ := by decide +kernel
theorem pd_4 : parseMethodDescriptor "(I)I" = some ⟨[.int], some .int⟩ := by decide +kernel
theorem pd_5 : parseMethodDescriptor "(II)I" = some ⟨[.int, .int], some .int⟩ := by decide +kernel
theorem d1_0 : decode jdk_29_method_69_code 0 = .ok (.iload_n 0, 1) := by decide +kernel
theorem d1_1 : decode jdk_29_method_69_code 1 = .ok (.iload_n 1, 1) := by decide +kernel
theorem d1_2 : decode jdk_29_method_69_code 2 = .ok (.if_icmp .gt 7, 3) := by decide +kernel
theorem d1_5 : decode jdk_29_method_69_code 5 = .ok (.iload_n 0, 1) := by decide +kernel
theorem d1_6 : decode jdk_29_method_69_code 6 = .ok (.goto 4, 3) := by decide +kernel
theorem d1_9 : decode jdk_29_method_69_code 9 = .ok (.iload_n 1, 1) := by decide +kernel
theorem d1_10 : decode jdk_29_method_69_code 10 = .ok (.ireturn, 1) := by decide +kernel
theorem d2_0 : decode jdk_29_method_65_code 0 = .ok (.iload_n 0, 1) := by decide +kernel
theorem d2_1 : decode jdk_29_method_65_code 1 = .ok (.iload_n 1, 1) := by decide +kernel
theorem d2_2 : decode jdk_29_method_65_code 2 = .ok (.if_icmp .lt 7, 3) := by decide +kernel
theorem d2_5 : decode jdk_29_method_65_code 5 = .ok (.iload_n 0, 1) := by decide +kernel
theorem d2_6 : decode jdk_29_method_65_code 6 = .ok (.goto 4, 3) := by decide +kernel
theorem d2_9 : decode jdk_29_method_65_code 9 = .ok (.iload_n 1, 1) := by decide +kernel
theorem d2_10 : decode jdk_29_method_65_code 10 = .ok (.ireturn, 1) := by decide +kernel
theorem d3_0 : decode prog_105_method_1_code 0 = .ok (.aload_n 0, 1) := by decide +kernel
theorem d3_1 : decode prog_105_method_1_code 1 = .ok (.invokespecial 1, 3) := by decide +kernel
theorem d3_4 : decode prog_105_method_1_code 4 = .ok (.aload_n 0, 1) := by decide +kernel
theorem d3_5 : decode prog_105_method_1_code 5 = .ok (.iload_n 1, 1) := by decide +kernel
theorem d3_6 : decode prog_105_method_1_code 6 = .ok (.iconst 1, 1) := by decide +kernel
theorem d3_7 : decode prog_105_method_1_code 7 = .ok (.iadd, 1) := by decide +kernel
theorem d3_8 : decode prog_105_method_1_code 8 = .ok (.newarray .int, 2) := by decide +kernel
theorem d3_10 : decode prog_105_method_1_code 10 = .ok (.putfield 7, 3) := by decide +kernel
theorem d3_13 : decode prog_105_method_1_code 13 = .ok (.return_, 1) := by decide +kernel
theorem d5_0 : decode prog_105_method_2_code 0 = .ok (.aload_n 0, 1) := by decide +kernel
theorem d5_1 : decode prog_105_method_2_code 1 = .ok (.iload_n 1, 1) := by decide +kernel
theorem d5_2 : decode prog_105_method_2_code 2 = .ok (.iload_n 3, 1) := by decide +kernel
theorem d5_3 : decode prog_105_method_2_code 3 = .ok (.invokevirtual 13, 3) := by decide +kernel
theorem d5_6 : decode prog_105_method_2_code 6 = .ok (.aload_n 0, 1) := by decide +kernel
theorem d5_7 : decode prog_105_method_2_code 7 = .ok (.iload_n 2, 1) := by decide +kernel
theorem d5_8 : decode prog_105_method_2_code 8 = .ok (.iload_n 3, 1) := by decide +kernel
theorem d5_9 : decode prog_105_method_2_code 9 = .ok (.ineg, 1) := by decide +kernel
theorem d5_10 : decode prog_105_method_2_code 10 = .ok (.invokevirtual 13, 3) := by decide +kernel
theorem d5_13 : decode prog_105_method_2_code 13 = .ok (.return_, 1) := by decide +kernel
theorem d6_0 : decode prog_105_method_4_code 0 = .ok (.iload_n 1, 1) := by decide +kernel
theorem d6_1 : decode prog_105_method_4_code 1 = .ok (.iconst 1, 1) := by decide +kernel
theorem d6_2 : decode prog_105_method_4_code 2 = .ok (.iadd, 1) := by decide +kernel
theorem d6_3 : decode prog_105_method_4_code 3 = .ok (.istore_n 3, 1) := by decide +kernel
theorem d6_4 : decode prog_105_method_4_code 4 = .ok (.iload_n 3, 1) := by decide +kernel
theorem d6_5 : decode prog_105_method_4_code 5 = .ok (.aload_n 0, 1) := by decide +kernel
theorem d6_6 : decode prog_105_method_4_code 6 = .ok (.getfield 7, 3) := by decide +kernel
theorem d6_9 : decode prog_105_method_4_code 9 = .ok (.arraylength, 1) := by decide +kernel
theorem d6_10 : decode prog_105_method_4_code 10 = .ok (.if_icmp .ge 23, 3) := by decide +kernel
theorem d6_13 : decode prog_105_method_4_code 13 = .ok (.aload_n 0, 1) := by decide +kernel
theorem d6_14 : decode prog_105_method_4_code 14 = .ok (.getfield 7, 3) := by decide +kernel
theorem d6_17 : decode prog_105_method_4_code 17 = .ok (.iload_n 3, 1) := by decide +kernel
theorem d6_18 : decode prog_105_method_4_code 18 = .ok (.dup2, 1) := by decide +kernel
theorem d6_19 : decode prog_105_method_4_code 19 = .ok (.iaload, 1) := by decide +kernel
theorem d6_20 : decode prog_105_method_4_code 20 = .ok (.iload_n 2, 1) := by decide +kernel
theorem d6_21 : decode prog_105_method_4_code 21 = .ok (.iadd, 1) := by decide +kernel
theorem d6_22 : decode prog_105_method_4_code 22 = .ok (.iastore, 1) := by decide +kernel
theorem d6_23 : decode prog_105_method_4_code 23 = .ok (.iload_n 3, 1) := by decide +kernel
theorem d6_24 : decode prog_105_method_4_code 24 = .ok (.iload_n 3, 1) := by decide +kernel
theorem d6_25 : decode prog_105_method_4_code 25 = .ok (.iload_n 3, 1) := by decide +kernel
theorem d6_26 : decode prog_105_method_4_code 26 = .ok (.ineg, 1) := by decide +kernel
theorem d6_27 : decode prog_105_method_4_code 27 = .ok (.iand, 1) := by decide +kernel
theorem d6_28 : decode prog_105_method_4_code 28 = .ok (.iadd, 1) := by decide +kernel
theorem d6_29 : decode prog_105_method_4_code 29 = .ok (.istore_n 3, 1) := by decide +kernel
theorem d6_30 : decode prog_105_method_4_code 30 = .ok (.goto (-26), 3) := by decide +kernel
theorem d6_33 : decode prog_105_method_4_code 33 = .ok (.return_, 1) := by decide +kernel
theorem d7_0 : decode method_2_code 0 = .ok (.iload_n 1, 1) := by decide +kernel
theorem d7_1 : decode method_2_code 1 = .ok (.iload_n 0, 1) := by decide +kernel
theorem d7_2 : decode method_2_code 2 = .ok (.if_icmp .gt 10, 3) := by decide +kernel
theorem d7_5 : decode method_2_code 5 = .ok (.iload_n 0, 1) := by decide +kernel
theorem d7_6 : decode method_2_code 6 = .ok (.iload_n 2, 1) := by decide +kernel
theorem d7_7 : decode method_2_code 7 = .ok (.if_icmp .ge 5, 3) := by decide +kernel
theorem d7_10 : decode method_2_code 10 = .ok (.iload_n 3, 1) := by decide +kernel
theorem d7_11 : decode method_2_code 11 = .ok (.ireturn, 1) := by decide +kernel
theorem d7_12 : decode method_2_code 12 = .ok (.iconst 0, 1) := by decide +kernel
theorem d7_13 : decode method_2_code 13 = .ok (.ireturn, 1) := by decide +kernel
theorem d8_0 : decode prog_105_method_3_code 0 = .ok (.iconst 0, 1) := by decide +kernel
theorem d8_1 : decode prog_105_method_3_code 1 = .ok (.istore_n 2, 1) := by decide +kernel
theorem d8_2 : decode prog_105_method_3_code 2 = .ok (.iload_n 1, 1) := by decide +kernel
theorem d8_3 : decode prog_105_method_3_code 3 = .ok (.iconst 1, 1) := by decide +kernel
theorem d8_4 : decode prog_105_method_3_code 4 = .ok (.iadd, 1) := by decide +kernel
theorem d8_5 : decode prog_105_method_3_code 5 = .ok (.istore_n 3, 1) := by decide +kernel
theorem d8_6 : decode prog_105_method_3_code 6 = .ok (.iload_n 3, 1) := by decide +kernel
theorem d8_7 : decode prog_105_method_3_code 7 = .ok (.ifCond .le 22, 3) := by decide +kernel
theorem d8_10 : decode prog_105_method_3_code 10 = .ok (.iload_n 2, 1) := by decide +kernel
theorem d8_11 : decode prog_105_method_3_code 11 = .ok (.aload_n 0, 1) := by decide +kernel
theorem d8_12 : decode prog_105_method_3_code 12 = .ok (.getfield 7, 3) := by decide +kernel
theorem d8_15 : decode prog_105_method_3_code 15 = .ok (.iload_n 3, 1) := by decide +kernel
theorem d8_16 : decode prog_105_method_3_code 16 = .ok (.iaload, 1) := by decide +kernel
theorem d8_17 : decode prog_105_method_3_code 17 = .ok (.iadd, 1) := by decide +kernel
theorem d8_18 : decode prog_105_method_3_code 18 = .ok (.istore_n 2, 1) := by decide +kernel
theorem d8_19 : decode prog_105_method_3_code 19 = .ok (.iload_n 3, 1) := by decide +kernel
theorem d8_20 : decode prog_105_method_3_code 20 = .ok (.iload_n 3, 1) := by decide +kernel
theorem d8_21 : decode prog_105_method_3_code 21 = .ok (.iload_n 3, 1) := by decide +kernel
theorem d8_22 : decode prog_105_method_3_code 22 = .ok (.ineg, 1) := by decide +kernel
theorem d8_23 : decode prog_105_method_3_code 23 = .ok (.iand, 1) := by decide +kernel
theorem d8_24 : decode prog_105_method_3_code 24 = .ok (.isub, 1) := by decide +kernel
theorem d8_25 : decode prog_105_method_3_code 25 = .ok (.istore_n 3, 1) := by decide +kernel
theorem d8_26 : decode prog_105_method_3_code 26 = .ok (.goto (-20), 3) := by decide +kernel
theorem d8_29 : decode prog_105_method_3_code 29 = .ok (.iload_n 2, 1) := by decide +kernel
theorem d8_30 : decode prog_105_method_3_code 30 = .ok (.ireturn, 1) := by decide +kernel
def B0 : Bod := ("com/example/stampwise/stampwise/history/CoverCountsCountPinLaw", "law", code, maxLocals, ret, room_1)
theorem pl0 : plainFor (⟨"com/example/stampwise/stampwise/history/CoverCountsCountPinLaw", "law", "(IIIII)Z"⟩ : MethodName) = true := plainFor_of_name (by first | (simp [plainName, overriddenIn]; done) | decide +kernel)
def B1 : Bod := ("java/lang/Math", "min", jdk_29_method_69_code, 2, some .int, ({ frames := 0, cells := 0, slots := 0, locals := 0 } : Room))
theorem pl1 : plainFor (⟨"java/lang/Math", "min", "(II)I"⟩ : MethodName) = true := Jvm.Free.JP.mathPlain rfl (by decide +kernel)
def B2 : Bod := ("java/lang/Math", "max", jdk_29_method_65_code, 2, some .int, ({ frames := 0, cells := 0, slots := 0, locals := 0 } : Room))
theorem pl2 : plainFor (⟨"java/lang/Math", "max", "(II)I"⟩ : MethodName) = true := Jvm.Free.JP.mathPlain rfl (by decide +kernel)
def B3 : Bod := ("com/example/stampwise/stampwise/history/CoverCounts", "<init>", prog_105_method_1_code, 2, none, ({ frames := 1, cells := 1, slots := 17, locals := 12 } : Room))
theorem pl3 : plainFor (⟨"com/example/stampwise/stampwise/history/CoverCounts", "<init>", "(I)V"⟩ : MethodName) = true := plainFor_of_name (by first | (simp [plainName, overriddenIn]; done) | decide +kernel)
def B5 : Bod := ("com/example/stampwise/stampwise/history/CoverCounts", "add", prog_105_method_2_code, 4, none, ({ frames := 1, cells := 0, slots := 0, locals := 15 } : Room))
theorem pl5 : plainFor (⟨"com/example/stampwise/stampwise/history/CoverCounts", "add", "(III)V"⟩ : MethodName) = true := plainFor_of_name (by first | (simp [plainName, overriddenIn]; done) | decide +kernel)
def B6 : Bod := ("com/example/stampwise/stampwise/history/CoverCounts", "addFrom", prog_105_method_4_code, 4, none, ({ frames := 0, cells := 0, slots := 0, locals := 0 } : Room))
theorem pl6 : plainFor (⟨"com/example/stampwise/stampwise/history/CoverCounts", "addFrom", "(II)V"⟩ : MethodName) = true := plainFor_of_name (by first | (simp [plainName, overriddenIn]; done) | decide +kernel)
def B7 : Bod := ("com/example/stampwise/stampwise/history/CoverCountsCountPinLaw", "part", method_2_code, 4, some .int, ({ frames := 0, cells := 0, slots := 0, locals := 0 } : Room))
theorem pl7 : plainFor (⟨"com/example/stampwise/stampwise/history/CoverCountsCountPinLaw", "part", "(IIII)I"⟩ : MethodName) = true := plainFor_of_name (by first | (simp [plainName, overriddenIn]; done) | decide +kernel)
def B8 : Bod := ("com/example/stampwise/stampwise/history/CoverCounts", "count", prog_105_method_3_code, 4, some .int, ({ frames := 0, cells := 0, slots := 0, locals := 0 } : Room))
theorem pl8 : plainFor (⟨"com/example/stampwise/stampwise/history/CoverCounts", "count", "(I)I"⟩ : MethodName) = true := plainFor_of_name (by first | (simp [plainName, overriddenIn]; done) | decide +kernel)
def L_CC : OLay := [("com/example/stampwise/stampwise/history/CoverCounts", "differences", "[I")]
theorem lay_CC {Z : State} {a0 : Array Value} (hw : HW Z a0) : OLaids Z a0 "com/example/stampwise/stampwise/history/CoverCounts" L_CC := by
  intro q hq
  simp only [L_CC, List.mem_cons, List.not_mem_nil, or_false] at hq
  rcases hq with rfl
  · exact ⟨Or.inr (w18 hw), (.array .int), by decide⟩
theorem min_met {l : Launch} {Z : State} {a0 : Array Value} (hw : HW Z a0) {n0 : Nat} {h : Heap} (x y : Int32) : OMet l (⟨"java/lang/Math", "min", "(II)I"⟩ : MethodName) B1 Z n0 #[(.int x), (.int y)] h (fun v h' => h = h' ∧ ∃ r : Int32, v = some (.int r) ∧ ((y.toInt < x.toInt ∧ r.toInt = y.toInt) ∨ (x.toInt ≤ y.toInt ∧ r.toInt = x.toInt))) := by
  refine OMet.of_wp (ls0 := #[.val (.int x), .val (.int y)]) pl1 rfl rfl (fun m => own_entry 0 rfl rfl) ?_
  refine WP.iloadN d1_0 rfl (pc' := 1) rfl ?_
  refine WP.iloadN d1_1 rfl (pc' := 2) rfl ?_
  refine WP.icmpGt d1_2 (tgt := 9) (by decide) (pc' := 5) rfl (fun c2 => ?_) (fun c2 => ?_)
  ·
    refine WP.iloadN d1_9 rfl (pc' := 10) rfl ?_
    exact WP.retI d1_10 rfl (by decide) (by decide) ⟨rfl, _, rfl, by omega⟩
  refine WP.iloadN d1_5 rfl (pc' := 6) rfl ?_
  refine WP.goto d1_6 (pc' := 10) (by decide) ?_
  exact WP.retI d1_10 rfl (by decide) (by decide) ⟨rfl, _, rfl, by omega⟩
theorem max_met {l : Launch} {Z : State} {a0 : Array Value} (hw : HW Z a0) {n0 : Nat} {h : Heap} (x y : Int32) : OMet l (⟨"java/lang/Math", "max", "(II)I"⟩ : MethodName) B2 Z n0 #[(.int x), (.int y)] h (fun v h' => h = h' ∧ ∃ r : Int32, v = some (.int r) ∧ ((x.toInt < y.toInt ∧ r.toInt = y.toInt) ∨ (y.toInt ≤ x.toInt ∧ r.toInt = x.toInt))) := by
  refine OMet.of_wp (ls0 := #[.val (.int x), .val (.int y)]) pl2 rfl rfl (fun m => own_entry 0 rfl rfl) ?_
  refine WP.iloadN d2_0 rfl (pc' := 1) rfl ?_
  refine WP.iloadN d2_1 rfl (pc' := 2) rfl ?_
  refine WP.icmpLt d2_2 (tgt := 9) (by decide) (pc' := 5) rfl (fun c2 => ?_) (fun c2 => ?_)
  ·
    refine WP.iloadN d2_9 rfl (pc' := 10) rfl ?_
    exact WP.retI d2_10 rfl (by decide) (by decide) ⟨rfl, _, rfl, by omega⟩
  refine WP.iloadN d2_5 rfl (pc' := 6) rfl ?_
  refine WP.goto d2_6 (pc' := 10) (by decide) ?_
  exact WP.retI d2_10 rfl (by decide) (by decide) ⟨rfl, _, rfl, by omega⟩

def lb (n : Nat) : Nat := if n % 2 = 1 then 1 else if n % 4 = 2 then 2 else if n % 8 = 4 then 4 else if n % 16 = 8 then 8 else 16
theorem lb_val (v : Int32) (n : Nat) (hv : v.toInt = (n : Int)) (h1 : 1 ≤ n) (h2 : n ≤ 16) : (v &&& (-v)).toInt = (lb n : Int) := by
  rcases (by omega : n = 1 ∨ n = 2 ∨ n = 3 ∨ n = 4 ∨ n = 5 ∨ n = 6 ∨ n = 7 ∨ n = 8 ∨ n = 9 ∨ n = 10 ∨ n = 11 ∨ n = 12 ∨ n = 13 ∨ n = 14 ∨ n = 15 ∨ n = 16) with rfl | rfl | rfl | rfl | rfl | rfl | rfl | rfl | rfl | rfl | rfl | rfl | rfl | rfl | rfl | rfl
  · obtain rfl : v = (1 : Int32) := own_e32 (by rw [hv]; decide)
    decide
  · obtain rfl : v = (2 : Int32) := own_e32 (by rw [hv]; decide)
    decide
  · obtain rfl : v = (3 : Int32) := own_e32 (by rw [hv]; decide)
    decide
  · obtain rfl : v = (4 : Int32) := own_e32 (by rw [hv]; decide)
    decide
  · obtain rfl : v = (5 : Int32) := own_e32 (by rw [hv]; decide)
    decide
  · obtain rfl : v = (6 : Int32) := own_e32 (by rw [hv]; decide)
    decide
  · obtain rfl : v = (7 : Int32) := own_e32 (by rw [hv]; decide)
    decide
  · obtain rfl : v = (8 : Int32) := own_e32 (by rw [hv]; decide)
    decide
  · obtain rfl : v = (9 : Int32) := own_e32 (by rw [hv]; decide)
    decide
  · obtain rfl : v = (10 : Int32) := own_e32 (by rw [hv]; decide)
    decide
  · obtain rfl : v = (11 : Int32) := own_e32 (by rw [hv]; decide)
    decide
  · obtain rfl : v = (12 : Int32) := own_e32 (by rw [hv]; decide)
    decide
  · obtain rfl : v = (13 : Int32) := own_e32 (by rw [hv]; decide)
    decide
  · obtain rfl : v = (14 : Int32) := own_e32 (by rw [hv]; decide)
    decide
  · obtain rfl : v = (15 : Int32) := own_e32 (by rw [hv]; decide)
    decide
  · obtain rfl : v = (16 : Int32) := own_e32 (by rw [hv]; decide)
    decide
theorem lb_rng : ∀ n : Fin 17, 1 ≤ n.1 → 1 ≤ lb n.1 ∧ lb n.1 ≤ n.1 := by decide
theorem lb_cov : ∀ i : Fin 17, ∀ q : Fin 17, 1 ≤ i.1 → q.1 ≤ i.1 → i.1 - lb i.1 < q.1 → (i.1 + lb i.1 ≤ 16 → i.1 + lb i.1 - lb (i.1 + lb i.1) < q.1) ∧ ∀ j : Fin 17, i.1 < j.1 → j.1 < i.1 + lb i.1 → q.1 ≤ j.1 - lb j.1 := by decide +kernel
/-- the array's entries are the differences of P over the stretches that Fenwick's tree lays -/
def FW (vs : List Value) (len : Nat) (G : Nat → Int) : Prop := vs.length = len ∧ ∀ j, 1 ≤ j → j < len → ∃ y : Int32, vs[j]? = some (.int y) ∧ (y.toInt - G j) % 4294967296 = 0
def dP (P : Nat → Int) (j : Nat) : Int := P j - P (j - lb j)
theorem FW.set {vs : List Value} {len i : Nat} {G G' : Nat → Int} {z : Int32} (F : FW vs len G) (hi : i < len) (hz : (z.toInt - G' i) % 4294967296 = 0) (hj : ∀ j, 1 ≤ j → j < len → j ≠ i → G' j = G j) : FW (vs.set i (.int z)) len G' := by
  refine ⟨by simpa using F.1, fun j h1 h2 => ?_⟩
  by_cases e : i = j
  · subst e
    exact ⟨z, List.getElem?_set_self (by rw [F.1]; exact hi), hz⟩
  · obtain ⟨y, e1, e2⟩ := F.2 j h1 h2
    exact ⟨y, by rw [List.getElem?_set_ne e]; exact e1, by rw [hj j h1 h2 (Ne.symm e)]; exact e2⟩
def CC (Z : State) (n0 : Nat) (h : Heap) (a : Addr) (len : Nat) (P : Nat → Int) : Prop := ∃ (d : Addr) (vs : List Value), Ob Z h a "com/example/stampwise/stampwise/history/CoverCounts" L_CC [.ref d] ∧ Av Z h d .int vs ∧ FW vs len (dP P) ∧ n0 ≤ a ∧ n0 ≤ d ∧ a ≠ d ∧ 2 ≤ len ∧ len ≤ 17
theorem CC.exa {Z : State} {n0 : Nat} {h : Heap} {a : Addr} {len : Nat} {P : Nat → Int} (I : CC Z n0 h a len P) : Exa Z h a "com/example/stampwise/stampwise/history/CoverCounts" := by
  obtain ⟨d, vs, O, -⟩ := I; exact O.1

theorem ini_met {l : Launch} {Z : State} {a0 : Array Value} (hw : HW Z a0) {n0 : Nat} {h : Heap} (a : Addr) (n : Int32) (len : Nat) (hn : n.toInt + 1 = (len : Int)) (hl2 : 2 ≤ len) (hl17 : len ≤ 17) (g_a : n0 ≤ a) (O_a : Ob Z h a "com/example/stampwise/stampwise/history/CoverCounts" L_CC [.null]) : OMet l (⟨"com/example/stampwise/stampwise/history/CoverCounts", "<init>", "(I)V"⟩ : MethodName) B3 Z n0 #[(.ref a), (.int n)] h (fun v h' => v = none ∧ CC Z n0 h' a len (fun _ => 0)) := by
  refine OMet.of_wp (ls0 := #[.val (.ref a), .val (.int n)]) pl3 rfl rfl (fun m => own_entry 0 rfl rfl) ?_
  have k32_1 : (1 : Int32).toInt = 1 := by decide
  refine WP.aloadN d3_0 rfl rfl (pc' := 1) rfl ?_
  refine WP.initO (a := a) d3_1 (w13 hw) (w14 hw) (w15 hw) rfl (by decide) (Nat.le_of_ble_eq_true rfl) (pc' := 4) rfl ?_
  refine WP.aloadN d3_4 rfl rfl (pc' := 5) rfl ?_
  refine WP.iloadN d3_5 rfl (pc' := 6) rfl ?_
  refine WP.iconst d3_6 (z := (1 : Int32)) rfl (pc' := 7) rfl ?_
  refine WP.iadd d3_7 (pc' := 8) rfl ?_
  have hlen : (n + (1 : Int32)).toInt = (len : Int) := by rw [own_iadd] <;> omega
  refine WP.newarr d3_8 (w16 hw) (k := len) hlen 17 hl17 (by decide) (by decide) (by decide) (pc' := 10) rfl ?_
  intro d h1 eb_d g_d K2 A_d
  replace A_d : Av Z h1 d .int (List.replicate len (.int 0)) := A_d
  have lt_a_d : a < d := by rw [eb_d]; exact O_a.lt
  replace O_a := O_a.keep K2 own_nil
  refine WP.putf (i := 0) d3_10 (w17 hw) O_a (lay_CC hw) (by decide) rfl (Or.inr ⟨(w18 hw), rfl, rfl⟩) (w8 hw) (t := (.array .int)) (by decide) rfl rfl g_a (pc' := 13) rfl ?_
  intro h3 K4 O_n
  replace A_d := A_d.keep K4 (own_cons (by first | assumption | exact Ne.symm (by assumption) | exact Nat.ne_of_lt (by assumption) | exact Nat.ne_of_gt (by assumption)) own_nil)
  replace O_a : Ob Z h3 a "com/example/stampwise/stampwise/history/CoverCounts" L_CC [(.ref d)] := O_n
  clear O_n
  exact WP.ret0 d3_13 rfl (by decide) (by decide) ⟨rfl, d, _, O_a, A_d, ⟨by simp, fun j h1 h2 => ⟨0, by simp [h2], by simp [dP]⟩⟩, g_a, g_d, (by first | assumption | exact Ne.symm (by assumption) | exact Nat.ne_of_lt (by assumption) | exact Nat.ne_of_gt (by assumption)), by omega, hl17⟩
theorem adf_4 {l : Launch} {Z : State} {a0 : Array Value} (hw : HW Z a0) {n0 : Nat} (a d : Addr) (it amt : Int32) (len q : Nat) (P P' : Nat → Int) (hq : 1 ≤ q) (hP1 : ∀ j, q ≤ j → P' j = P j + amt.toInt) (hP2 : ∀ j, j < q → P' j = P j) (g_a : n0 ≤ a) (g_d : n0 ≤ d) (n_ad : a ≠ d) (hl2 : 2 ≤ len) (hl17 : len ≤ 17) (k : Nat) : ∀ (h : Heap) (i : Nat) (v : Int32) (vs : List Value), 17 - i = k → v.toInt = (i : Int) → q ≤ i → (i ≤ 16 → i - lb i < q) → Ob Z h a "com/example/stampwise/stampwise/history/CoverCounts" L_CC [.ref d] → Av Z h d .int vs → FW vs len (fun j => if j < i then dP P' j else dP P j) → WP l B6 Z n0 (fun v h' => v = none ∧ CC Z n0 h' a len P') h 0 0 4 #[.val (.ref a), .val (.int it), .val (.int amt), .val (.int v)] [] := by
  induction k using Nat.strongRecOn with
  | _ k ih =>
    intro h i v vs hk hv hqi hcv O_a A_d hF
    obtain ⟨lenI, hlenI⟩ : ∃ z : Int32, z.toInt = (len : Int) := ⟨Int32.ofNat len, Int32.toInt_ofNat_of_lt (by omega)⟩

    refine WP.iloadN d6_4 rfl (pc' := 5) rfl ?_
    refine WP.aloadN d6_5 rfl rfl (pc' := 6) rfl ?_
    refine WP.getf (i := 0) (v := (.ref d)) d6_6 (w17 hw) O_a rfl rfl (pc' := 9) rfl ?_
    refine WP.alen d6_9 A_d (k := lenI) (by rw [hF.1]; exact hlenI) (pc' := 10) rfl ?_
    refine WP.icmpGe d6_10 (tgt := 33) (by decide) (pc' := 13) rfl (fun c10 => ?_) (fun c10 => ?_)
    ·
      exact WP.ret0 d6_33 rfl (by decide) (by decide) ⟨rfl, d, vs, O_a, A_d, ⟨hF.1, fun j h1 h2 => by obtain ⟨y, e1, e2⟩ := hF.2 j h1 h2; refine ⟨y, e1, ?_⟩; simp only at e2; rw [if_pos (by omega)] at e2; exact e2⟩, g_a, g_d, n_ad, hl2, hl17⟩
    refine WP.aloadN d6_13 rfl rfl (pc' := 14) rfl ?_
    refine WP.getf (i := 0) (v := (.ref d)) d6_14 (w17 hw) O_a rfl rfl (pc' := 17) rfl ?_
    refine WP.iloadN d6_17 rfl (pc' := 18) rfl ?_
    refine WP.dup2 d6_18 rfl rfl (pc' := 19) rfl ?_
    obtain ⟨y, hy, hyy⟩ := hF.2 i (by omega) (by omega)
    refine WP.iaload i d6_19 A_d (x := y) hv hy (pc' := 20) rfl ?_
    refine WP.iloadN d6_20 rfl (pc' := 21) rfl ?_
    refine WP.iadd d6_21 (pc' := 22) rfl ?_
    have f1 := c_iadd y amt
    have f2 := lb_rng ⟨i, by omega⟩ (by show 1 ≤ i; omega)
    have f3 := lb_cov ⟨i, by omega⟩ ⟨q, by omega⟩ (by show 1 ≤ i; omega) hqi (hcv (by omega))
    simp only at f2 f3
    have f4 : (v &&& (-v)).toInt = (lb i : Int) := lb_val v i hv (by omega) (by omega)
    have f5 : (v + (v &&& (-v))).toInt = ((i + lb i : Nat) : Int) := by rw [own_iadd] <;> omega
    simp only at hyy
    rw [if_neg (by omega)] at hyy
    have f6 : P' i = P i + amt.toInt := hP1 i hqi
    have f7 : P' (i - lb i) = P (i - lb i) := hP2 _ (hcv (by omega))
    have F2 : FW (vs.set i (.int (y + amt))) len (fun j => if j < i + lb i then dP P' j else dP P j) := by
      refine hF.set (by omega) ?_ ?_
      · simp only [dP] at hyy ⊢
        rw [if_pos (by omega), f6, f7]; omega
      · intro j h1 h2 h3
        by_cases c1 : j < i
        · rw [if_pos (by omega), if_pos c1]
        · by_cases c2 : j < i + lb i
          · rw [if_pos c2, if_neg c1]
            have g1 := f3.2 ⟨j, by omega⟩ (by show i < j; omega) c2
            simp only at g1
            simp only [dP]; rw [hP1 j (by omega), hP1 (j - lb j) g1]; omega
          · rw [if_neg c2, if_neg c1]
    refine WP.iastore i d6_22 A_d hv (by rw [hF.1]; omega) g_d (pc' := 23) rfl ?_
    intro h1 K2 A_n
    replace O_a := O_a.keep K2 (own_cons (by first | assumption | exact Ne.symm (by assumption) | exact Nat.ne_of_lt (by assumption) | exact Nat.ne_of_gt (by assumption)) own_nil)
    replace A_d := A_n
    refine WP.iloadN d6_23 rfl (pc' := 24) rfl ?_
    refine WP.iloadN d6_24 rfl (pc' := 25) rfl ?_
    refine WP.iloadN d6_25 rfl (pc' := 26) rfl ?_
    refine WP.ineg d6_26 (pc' := 27) rfl ?_
    refine WP.iand d6_27 (pc' := 28) rfl ?_
    refine WP.iadd d6_28 (pc' := 29) rfl ?_
    obtain ⟨v2, e_v2⟩ : ∃ z, z = (v + (v &&& (-v))) := ⟨_, rfl⟩
    rw [← e_v2]
    refine WP.istoreN d6_29 (pc' := 30) rfl (ls' := #[.val (.ref a), .val (.int it), .val (.int amt), .val (.int v2)]) rfl ?_
    refine WP.goto d6_30 (pc' := 4) (by decide) ?_
    rw [← e_v2] at f5
    exact ih (17 - (i + lb i)) (by omega) _ (i + lb i) v2 _ rfl f5 (by omega) f3.1 O_a A_d F2
theorem adf_met {l : Launch} {Z : State} {a0 : Array Value} (hw : HW Z a0) {n0 : Nat} {h : Heap} (a : Addr) (it amt : Int32) (len q : Nat) (P P' : Nat → Int) (hI : CC Z n0 h a len P) (hq : 1 ≤ q) (hit : it.toInt + 1 = (q : Int)) (hq17 : q ≤ 17) (hP1 : ∀ j, q ≤ j → P' j = P j + amt.toInt) (hP2 : ∀ j, j < q → P' j = P j) : OMet l (⟨"com/example/stampwise/stampwise/history/CoverCounts", "addFrom", "(II)V"⟩ : MethodName) B6 Z n0 #[(.ref a), (.int it), (.int amt)] h (fun v h' => v = none ∧ CC Z n0 h' a len P') := by
  refine OMet.of_wp (ls0 := #[.val (.ref a), .val (.int it), .val (.int amt), .unset]) pl6 rfl rfl (fun m => own_entry 1 rfl rfl) ?_
  obtain ⟨d, vs, O_a, A_d, hF, g_a, g_d, n_ad, hl2, hl17⟩ := hI
  have k32_1 : (1 : Int32).toInt = 1 := by decide
  refine WP.iloadN d6_0 rfl (pc' := 1) rfl ?_
  refine WP.iconst d6_1 (z := (1 : Int32)) rfl (pc' := 2) rfl ?_
  refine WP.iadd d6_2 (pc' := 3) rfl ?_
  obtain ⟨v, e_v⟩ : ∃ z, z = (it + (1 : Int32)) := ⟨_, rfl⟩
  rw [← e_v]
  refine WP.istoreN d6_3 (pc' := 4) rfl (ls' := #[.val (.ref a), .val (.int it), .val (.int amt), .val (.int v)]) rfl ?_
  have f1 : v.toInt = (q : Int) := by rw [e_v, own_iadd] <;> omega
  exact adf_4 hw a d it amt len q P P' hq hP1 hP2 g_a g_d n_ad hl2 hl17 _ _ q v vs rfl f1 (Nat.le_refl _) (fun h16 => by have := lb_rng ⟨q, by omega⟩ hq; simp only at this; omega) O_a A_d ⟨hF.1, fun j h1 h2 => by obtain ⟨y, e1, e2⟩ := hF.2 j h1 h2; refine ⟨y, e1, ?_⟩; simp only; by_cases cj : j < q; (rw [if_pos cj]; simp only [dP] at e2 ⊢; rw [hP2 j cj, hP2 (j - lb j) (by omega)]; exact e2); (rw [if_neg cj]; exact e2)⟩
theorem add_met {l : Launch} {Z : State} {a0 : Array Value} (hw : HW Z a0) {n0 : Nat} {h : Heap} (a : Addr) (fr to amt : Int32) (len qf qt : Nat) (P : Nat → Int) (hI : CC Z n0 h a len P) (h1 : 1 ≤ qf) (hf : fr.toInt + 1 = (qf : Int)) (h17 : qf ≤ 17) (h2 : 1 ≤ qt) (ht : to.toInt + 1 = (qt : Int)) (h18 : qt ≤ 17) : OMet l (⟨"com/example/stampwise/stampwise/history/CoverCounts", "add", "(III)V"⟩ : MethodName) B5 Z n0 #[(.ref a), (.int fr), (.int to), (.int amt)] h (fun v h' => v = none ∧ CC Z n0 h' a len (fun j => P j + (if qf ≤ j then amt.toInt else 0) + (if qt ≤ j then (-amt).toInt else 0))) := by
  refine OMet.of_wp (ls0 := #[.val (.ref a), .val (.int fr), .val (.int to), .val (.int amt)]) pl5 rfl rfl (fun m => own_entry 0 rfl rfl) ?_
  refine WP.aloadN d5_0 rfl rfl (pc' := 1) rfl ?_
  refine WP.iloadN d5_1 rfl (pc' := 2) rfl ?_
  refine WP.iloadN d5_2 rfl (pc' := 3) rfl ?_
  refine WP.callP (a := a) (y0 := (⟨"com/example/stampwise/stampwise/history/CoverCounts", "add", "(III)V"⟩ : MethodName)) (y := (⟨"com/example/stampwise/stampwise/history/CoverCounts", "addFrom", "(II)V"⟩ : MethodName)) (By := B6) (as := [(.int fr), (.int amt)]) (rest := []) d5_3 (w24 hw) (w25 hw) (w26 hw) (w22 hw) (w9 hw) (w27 hw) rfl (by decide) hI.exa (adf_met hw a fr amt len qf P (fun j => P j + (if qf ≤ j then amt.toInt else 0)) hI h1 hf h17 (fun j hj => by simp [hj]) (fun j hj => by simp [Nat.not_le.mpr hj])) pd_0 rfl rfl rfl (by decide) (Nat.le_of_ble_eq_true rfl) (by decide) (by decide) (pc' := 6) rfl ?_
  rintro _ h1 ⟨rfl, hI⟩
  show WP _ _ _ _ _ _ _ _ _ _ []
  refine WP.aloadN d5_6 rfl rfl (pc' := 7) rfl ?_
  refine WP.iloadN d5_7 rfl (pc' := 8) rfl ?_
  refine WP.iloadN d5_8 rfl (pc' := 9) rfl ?_
  refine WP.ineg d5_9 (pc' := 10) rfl ?_
  refine WP.callP (a := a) (y0 := (⟨"com/example/stampwise/stampwise/history/CoverCounts", "add", "(III)V"⟩ : MethodName)) (y := (⟨"com/example/stampwise/stampwise/history/CoverCounts", "addFrom", "(II)V"⟩ : MethodName)) (By := B6) (as := [(.int to), (.int (-amt))]) (rest := []) d5_10 (w24 hw) (w25 hw) (w26 hw) (w22 hw) (w9 hw) (w27 hw) rfl (by decide) hI.exa (adf_met hw a to (-amt) len qt _ (fun j => P j + (if qf ≤ j then amt.toInt else 0) + (if qt ≤ j then (-amt).toInt else 0)) hI h2 ht h18 (fun j hj => by simp [hj]) (fun j hj => by simp [Nat.not_le.mpr hj])) pd_0 rfl rfl rfl (by decide) (Nat.le_of_ble_eq_true rfl) (by decide) (by decide) (pc' := 13) rfl ?_
  rintro _ h2 ⟨rfl, hI⟩
  show WP _ _ _ _ _ _ _ _ _ _ []
  exact WP.ret0 d5_13 rfl (by decide) (by decide) ⟨rfl, hI⟩
theorem prt_met {l : Launch} {Z : State} {a0 : Array Value} (hw : HW Z a0) {n0 : Nat} {h : Heap} (it fr to amt : Int32) : OMet l (⟨"com/example/stampwise/stampwise/history/CoverCountsCountPinLaw", "part", "(IIII)I"⟩ : MethodName) B7 Z n0 #[(.int it), (.int fr), (.int to), (.int amt)] h (fun v h' => h = h' ∧ ∃ r : Int32, v = some (.int r) ∧ ((fr.toInt ≤ it.toInt ∧ it.toInt < to.toInt ∧ r.toInt = amt.toInt) ∨ (¬ (fr.toInt ≤ it.toInt ∧ it.toInt < to.toInt) ∧ r.toInt = 0))) := by
  refine OMet.of_wp (ls0 := #[.val (.int it), .val (.int fr), .val (.int to), .val (.int amt)]) pl7 rfl rfl (fun m => own_entry 0 rfl rfl) ?_
  have k32_0 : (0 : Int32).toInt = 0 := by decide
  refine WP.iloadN d7_0 rfl (pc' := 1) rfl ?_
  refine WP.iloadN d7_1 rfl (pc' := 2) rfl ?_
  refine WP.icmpGt d7_2 (tgt := 12) (by decide) (pc' := 5) rfl (fun c2 => ?_) (fun c2 => ?_)
  ·
    refine WP.iconst d7_12 (z := (0 : Int32)) rfl (pc' := 13) rfl ?_
    exact WP.retI d7_13 rfl (by decide) (by decide) ⟨rfl, _, rfl, by omega⟩
  refine WP.iloadN d7_5 rfl (pc' := 6) rfl ?_
  refine WP.iloadN d7_6 rfl (pc' := 7) rfl ?_
  refine WP.icmpGe d7_7 (tgt := 12) (by decide) (pc' := 10) rfl (fun c7 => ?_) (fun c7 => ?_)
  ·
    refine WP.iconst d7_12 (z := (0 : Int32)) rfl (pc' := 13) rfl ?_
    exact WP.retI d7_13 rfl (by decide) (by decide) ⟨rfl, _, rfl, by omega⟩
  refine WP.iloadN d7_10 rfl (pc' := 11) rfl ?_
  exact WP.retI d7_11 rfl (by decide) (by decide) ⟨rfl, _, rfl, by omega⟩
theorem cnt_6 {l : Launch} {Z : State} {a0 : Array Value} (hw : HW Z a0) {n0 : Nat} {h : Heap} (a d : Addr) (it : Int32) (len q : Nat) (vs : List Value) (P : Nat → Int) (hql : q < len) (hl17 : len ≤ 17) (O_a : Ob Z h a "com/example/stampwise/stampwise/history/CoverCounts" L_CC [.ref d]) (A_d : Av Z h d .int vs) (hF : FW vs len (dP P)) (k : Nat) : ∀ (v sm : Int32), v.toInt = (k : Int) → k ≤ q → (sm.toInt + P k - P q) % 4294967296 = 0 → WP l B8 Z n0 (fun v h' => ∃ r : Int32, v = some (.int r) ∧ (r.toInt - (P q - P 0)) % 4294967296 = 0) h 0 0 6 #[.val (.ref a), .val (.int it), .val (.int sm), .val (.int v)] [] := by
  induction k using Nat.strongRecOn with
  | _ k ih =>
    intro v sm hv hkq hsm

    refine WP.iloadN d8_6 rfl (pc' := 7) rfl ?_
    refine WP.ifLe d8_7 (tgt := 29) (by decide) (pc' := 10) rfl (fun c7 => ?_) (fun c7 => ?_)
    ·
      refine WP.iloadN d8_29 rfl (pc' := 30) rfl ?_
      exact WP.retI d8_30 rfl (by decide) (by decide) ⟨_, rfl, (by have hk0 : k = 0 := (by omega); subst hk0; omega)⟩
    refine WP.iloadN d8_10 rfl (pc' := 11) rfl ?_
    refine WP.aloadN d8_11 rfl rfl (pc' := 12) rfl ?_
    refine WP.getf (i := 0) (v := (.ref d)) d8_12 (w17 hw) O_a rfl rfl (pc' := 15) rfl ?_
    refine WP.iloadN d8_15 rfl (pc' := 16) rfl ?_
    obtain ⟨y, hy, hyy⟩ := hF.2 k (by omega) (by omega)
    have f2 := lb_rng ⟨k, by omega⟩ (by show 1 ≤ k; omega)
    simp only at f2
    simp only [dP] at hyy
    have f4 : (v &&& (-v)).toInt = (lb k : Int) := lb_val v k hv (by omega) (by omega)
    have f5 : (v - (v &&& (-v))).toInt = ((k - lb k : Nat) : Int) := by rw [own_isub] <;> omega
    have f1 := c_iadd sm y
    refine WP.iaload k d8_16 A_d (x := y) hv hy (pc' := 17) rfl ?_
    refine WP.iadd d8_17 (pc' := 18) rfl ?_
    obtain ⟨sm2, e_sm2⟩ : ∃ z, z = (sm + y) := ⟨_, rfl⟩
    rw [← e_sm2]
    refine WP.istoreN d8_18 (pc' := 19) rfl (ls' := #[.val (.ref a), .val (.int it), .val (.int sm2), .val (.int v)]) rfl ?_
    refine WP.iloadN d8_19 rfl (pc' := 20) rfl ?_
    refine WP.iloadN d8_20 rfl (pc' := 21) rfl ?_
    refine WP.iloadN d8_21 rfl (pc' := 22) rfl ?_
    refine WP.ineg d8_22 (pc' := 23) rfl ?_
    refine WP.iand d8_23 (pc' := 24) rfl ?_
    refine WP.isub d8_24 (pc' := 25) rfl ?_
    obtain ⟨v2, e_v2⟩ : ∃ z, z = (v - (v &&& (-v))) := ⟨_, rfl⟩
    rw [← e_v2]
    refine WP.istoreN d8_25 (pc' := 26) rfl (ls' := #[.val (.ref a), .val (.int it), .val (.int sm2), .val (.int v2)]) rfl ?_
    refine WP.goto d8_26 (pc' := 6) (by decide) ?_
    rw [← e_v2] at f5
    rw [← e_sm2] at f1
    exact ih (k - lb k) (by omega) v2 sm2 f5 (by omega) (by omega)
theorem cnt_met {l : Launch} {Z : State} {a0 : Array Value} (hw : HW Z a0) {n0 : Nat} {h : Heap} (a : Addr) (it : Int32) (len q : Nat) (P : Nat → Int) (hI : CC Z n0 h a len P) (hit : it.toInt + 1 = (q : Int)) (hql : q < len) : OMet l (⟨"com/example/stampwise/stampwise/history/CoverCounts", "count", "(I)I"⟩ : MethodName) B8 Z n0 #[(.ref a), (.int it)] h (fun v h' => ∃ r : Int32, v = some (.int r) ∧ (r.toInt - (P q - P 0)) % 4294967296 = 0) := by
  refine OMet.of_wp (ls0 := #[.val (.ref a), .val (.int it), .unset, .unset]) pl8 rfl rfl (fun m => own_entry 2 rfl rfl) ?_
  obtain ⟨d, vs, O_a, A_d, hF, g_a, g_d, n_ad, hl2, hl17⟩ := hI
  have k32_0 : (0 : Int32).toInt = 0 := by decide
  have k32_1 : (1 : Int32).toInt = 1 := by decide
  have k32_0 : (0 : Int32).toInt = 0 := by decide
  refine WP.iconst d8_0 (z := (0 : Int32)) rfl (pc' := 1) rfl ?_
  refine WP.istoreN d8_1 (pc' := 2) rfl (ls' := #[.val (.ref a), .val (.int it), .val (.int (0 : Int32)), .unset]) rfl ?_
  refine WP.iloadN d8_2 rfl (pc' := 3) rfl ?_
  refine WP.iconst d8_3 (z := (1 : Int32)) rfl (pc' := 4) rfl ?_
  refine WP.iadd d8_4 (pc' := 5) rfl ?_
  obtain ⟨v, e_v⟩ : ∃ z, z = (it + (1 : Int32)) := ⟨_, rfl⟩
  rw [← e_v]
  refine WP.istoreN d8_5 (pc' := 6) rfl (ls' := #[.val (.ref a), .val (.int it), .val (.int (0 : Int32)), .val (.int v)]) rfl ?_
  have f1 : v.toInt = (q : Int) := by rw [e_v, own_iadd] <;> omega
  exact cnt_6 hw a d it len q vs P hql hl17 O_a A_d hF q v _ f1 (Nat.le_refl _) (by rw [k32_0]; omega)
theorem own_part (qf qt q : Nat) (A p it fr to : Int32) (h1 : fr.toInt + 1 = (qf : Int)) (h2 : to.toInt + 1 = (qt : Int)) (h3 : it.toInt + 1 = (q : Int)) (hft : qf ≤ qt) (hp : (fr.toInt ≤ it.toInt ∧ it.toInt < to.toInt ∧ p.toInt = A.toInt) ∨ (¬ (fr.toInt ≤ it.toInt ∧ it.toInt < to.toInt) ∧ p.toInt = 0)) :
    ∃ E : Int, (if qf ≤ q then A.toInt else 0) + (if qt ≤ q then (-A).toInt else 0) = E ∧ (E - p.toInt) % 4294967296 = 0 := by
  refine ⟨_, rfl, ?_⟩
  have := c_ineg A
  by_cases c1 : qf ≤ q <;> by_cases c2 : qt ≤ q <;> simp only [c1, c2, if_true, if_false] <;> omega
theorem law_147 {l : Launch} {Z : State} {a0 : Array Value} (hw : HW Z a0) {n0 : Nat} {h : Heap} (sh pl a1 a2 a3 n m x1 y1 x2 y2 it x3 y3 f1 t1 f2 t2 f3 t3 : Int32) (len : Nat) (hn : 1 ≤ n.toInt ∧ n.toInt ≤ 16) (hln : n.toInt + 1 = (len : Int)) (hit : 0 ≤ it.toInt ∧ it.toInt < n.toInt) (h1 : 0 ≤ f1.toInt ∧ f1.toInt ≤ t1.toInt ∧ t1.toInt ≤ n.toInt) (h2 : 0 ≤ f2.toInt ∧ f2.toInt ≤ t2.toInt ∧ t2.toInt ≤ n.toInt) (h3 : 0 ≤ f3.toInt ∧ f3.toInt ≤ t3.toInt ∧ t3.toInt ≤ n.toInt) : WP l B0 Z n0 (fun v h' => v = some (.int 1)) h 0 0 147 #[.val (.int sh), .val (.int pl), .val (.int a1), .val (.int a2), .val (.int a3), .val (.int n), .val (.int m), .val (.int x1), .val (.int y1), .val (.int x2), .val (.int y2), .val (.int it), .val (.int x3), .val (.int y3), .val (.int f1), .val (.int t1), .val (.int f2), .val (.int t2), .val (.int f3), .val (.int t3), .unset, .unset] [] := by
  have k32_0 : (0 : Int32).toInt = 0 := by decide
  have k32_1 : (1 : Int32).toInt = 1 := by decide
  obtain ⟨qf1, hqf1⟩ : ∃ z : Nat, f1.toInt + 1 = (z : Int) := ⟨(f1.toInt + 1).toNat, by omega⟩
  obtain ⟨qt1, hqt1⟩ : ∃ z : Nat, t1.toInt + 1 = (z : Int) := ⟨(t1.toInt + 1).toNat, by omega⟩
  obtain ⟨qf2, hqf2⟩ : ∃ z : Nat, f2.toInt + 1 = (z : Int) := ⟨(f2.toInt + 1).toNat, by omega⟩
  obtain ⟨qt2, hqt2⟩ : ∃ z : Nat, t2.toInt + 1 = (z : Int) := ⟨(t2.toInt + 1).toNat, by omega⟩
  obtain ⟨qf3, hqf3⟩ : ∃ z : Nat, f3.toInt + 1 = (z : Int) := ⟨(f3.toInt + 1).toNat, by omega⟩
  obtain ⟨qt3, hqt3⟩ : ∃ z : Nat, t3.toInt + 1 = (z : Int) := ⟨(t3.toInt + 1).toNat, by omega⟩
  obtain ⟨qi, hqi⟩ : ∃ z : Nat, it.toInt + 1 = (z : Int) := ⟨(it.toInt + 1).toNat, by omega⟩
  refine WP.newobj (lay := L_CC) (vs := [.null]) at_147 (w7 hw) (w8 hw) (w9 hw) (lay_CC hw) rfl (by decide) (by decide) (pc' := 150) rfl ?_
  intro q h1 eb_q g_q K2 O_q
  refine WP.dup at_150 rfl (pc' := 151) rfl ?_
  refine WP.iload at_151 rfl (pc' := 153) rfl ?_
  refine WP.callI (a := q) (y := (⟨"com/example/stampwise/stampwise/history/CoverCounts", "<init>", "(I)V"⟩ : MethodName)) (By := B3) (as := [(.int n)]) (rest := [(.ref q)]) at_153 (w10 hw) (w11 hw) (w9 hw) (w12 hw) rfl rfl (by decide) (ini_met hw q n len (by omega) (by omega) (by omega) g_q O_q) pd_1 rfl rfl rfl (by decide) (Nat.le_of_ble_eq_true rfl) (by decide) (by decide) (pc' := 156) rfl ?_
  rintro _ h3 ⟨rfl, hI⟩
  show WP _ _ _ _ _ _ _ _ _ _ [(.ref q)]
  refine WP.astore at_156 (pc' := 158) rfl rfl (ls' := #[.val (.int sh), .val (.int pl), .val (.int a1), .val (.int a2), .val (.int a3), .val (.int n), .val (.int m), .val (.int x1), .val (.int y1), .val (.int x2), .val (.int y2), .val (.int it), .val (.int x3), .val (.int y3), .val (.int f1), .val (.int t1), .val (.int f2), .val (.int t2), .val (.int f3), .val (.int t3), .val (.ref q), .unset]) rfl ?_
  refine WP.aload at_158 rfl rfl (pc' := 160) rfl ?_
  refine WP.iload at_160 rfl (pc' := 162) rfl ?_
  refine WP.iload at_162 rfl (pc' := 164) rfl ?_
  refine WP.iloadN at_164 rfl (pc' := 165) rfl ?_
  refine WP.callV (a := q) (z := (⟨"com/example/stampwise/stampwise/history/CoverCounts", "add", "(III)V"⟩ : MethodName)) (Cl := "com/example/stampwise/stampwise/history/CoverCounts") (y := (⟨"com/example/stampwise/stampwise/history/CoverCounts", "add", "(III)V"⟩ : MethodName)) (By := B5) (as := [(.int f1), (.int t1), (.int a1)]) (rest := []) at_165 (w19 hw) (w20 hw) (w22 hw) (w21 hw) (w9 hw) (w23 hw) rfl rfl (by decide) hI.exa (add_met hw q f1 t1 a1 len qf1 qt1 _ hI (by omega) hqf1 (by omega) (by omega) hqt1 (by omega)) pd_2 rfl rfl rfl (by decide) (Nat.le_of_ble_eq_true rfl) (by decide) (by decide) (pc' := 168) rfl ?_
  rintro _ h4 ⟨rfl, hI⟩
  show WP _ _ _ _ _ _ _ _ _ _ []
  refine WP.aload at_168 rfl rfl (pc' := 170) rfl ?_
  refine WP.iload at_170 rfl (pc' := 172) rfl ?_
  refine WP.iload at_172 rfl (pc' := 174) rfl ?_
  refine WP.iloadN at_174 rfl (pc' := 175) rfl ?_
  refine WP.callV (a := q) (z := (⟨"com/example/stampwise/stampwise/history/CoverCounts", "add", "(III)V"⟩ : MethodName)) (Cl := "com/example/stampwise/stampwise/history/CoverCounts") (y := (⟨"com/example/stampwise/stampwise/history/CoverCounts", "add", "(III)V"⟩ : MethodName)) (By := B5) (as := [(.int f2), (.int t2), (.int a2)]) (rest := []) at_175 (w19 hw) (w20 hw) (w22 hw) (w21 hw) (w9 hw) (w23 hw) rfl rfl (by decide) hI.exa (add_met hw q f2 t2 a2 len qf2 qt2 _ hI (by omega) hqf2 (by omega) (by omega) hqt2 (by omega)) pd_2 rfl rfl rfl (by decide) (Nat.le_of_ble_eq_true rfl) (by decide) (by decide) (pc' := 178) rfl ?_
  rintro _ h5 ⟨rfl, hI⟩
  show WP _ _ _ _ _ _ _ _ _ _ []
  refine WP.aload at_178 rfl rfl (pc' := 180) rfl ?_
  refine WP.iload at_180 rfl (pc' := 182) rfl ?_
  refine WP.iload at_182 rfl (pc' := 184) rfl ?_
  refine WP.iload at_184 rfl (pc' := 186) rfl ?_
  refine WP.callV (a := q) (z := (⟨"com/example/stampwise/stampwise/history/CoverCounts", "add", "(III)V"⟩ : MethodName)) (Cl := "com/example/stampwise/stampwise/history/CoverCounts") (y := (⟨"com/example/stampwise/stampwise/history/CoverCounts", "add", "(III)V"⟩ : MethodName)) (By := B5) (as := [(.int f3), (.int t3), (.int a3)]) (rest := []) at_186 (w19 hw) (w20 hw) (w22 hw) (w21 hw) (w9 hw) (w23 hw) rfl rfl (by decide) hI.exa (add_met hw q f3 t3 a3 len qf3 qt3 _ hI (by omega) hqf3 (by omega) (by omega) hqt3 (by omega)) pd_2 rfl rfl rfl (by decide) (Nat.le_of_ble_eq_true rfl) (by decide) (by decide) (pc' := 189) rfl ?_
  rintro _ h6 ⟨rfl, hI⟩
  show WP _ _ _ _ _ _ _ _ _ _ []
  refine WP.iload at_189 rfl (pc' := 191) rfl ?_
  refine WP.iload at_191 rfl (pc' := 193) rfl ?_
  refine WP.iload at_193 rfl (pc' := 195) rfl ?_
  refine WP.iloadN at_195 rfl (pc' := 196) rfl ?_
  refine WP.callS (y := (⟨"com/example/stampwise/stampwise/history/CoverCountsCountPinLaw", "part", "(IIII)I"⟩ : MethodName)) (By := B7) (as := [(.int it), (.int f1), (.int t1), (.int a1)]) (rest := []) at_196 (w28 hw) (w29 hw) (w30 hw) (w31 hw) (by decide) (prt_met hw it f1 t1 a1) pd_3 rfl rfl rfl (by decide) (Nat.le_of_ble_eq_true rfl) (by decide) (by decide) (pc' := 199) rfl ?_
  rintro _ _ ⟨rfl, p1, rfl, hp1⟩
  show WP _ _ _ _ _ _ _ _ _ _ [(.int p1)]
  refine WP.iload at_199 rfl (pc' := 201) rfl ?_
  refine WP.iload at_201 rfl (pc' := 203) rfl ?_
  refine WP.iload at_203 rfl (pc' := 205) rfl ?_
  refine WP.iloadN at_205 rfl (pc' := 206) rfl ?_
  refine WP.callS (y := (⟨"com/example/stampwise/stampwise/history/CoverCountsCountPinLaw", "part", "(IIII)I"⟩ : MethodName)) (By := B7) (as := [(.int it), (.int f2), (.int t2), (.int a2)]) (rest := [(.int p1)]) at_206 (w28 hw) (w29 hw) (w30 hw) (w31 hw) (by decide) (prt_met hw it f2 t2 a2) pd_3 rfl rfl rfl (by decide) (Nat.le_of_ble_eq_true rfl) (by decide) (by decide) (pc' := 209) rfl ?_
  rintro _ _ ⟨rfl, p2, rfl, hp2⟩
  show WP _ _ _ _ _ _ _ _ _ _ [(.int p2), (.int p1)]
  refine WP.iadd at_209 (pc' := 210) rfl ?_
  refine WP.iload at_210 rfl (pc' := 212) rfl ?_
  refine WP.iload at_212 rfl (pc' := 214) rfl ?_
  refine WP.iload at_214 rfl (pc' := 216) rfl ?_
  refine WP.iload at_216 rfl (pc' := 218) rfl ?_
  refine WP.callS (y := (⟨"com/example/stampwise/stampwise/history/CoverCountsCountPinLaw", "part", "(IIII)I"⟩ : MethodName)) (By := B7) (as := [(.int it), (.int f3), (.int t3), (.int a3)]) (rest := [(.int (p1 + p2))]) at_218 (w28 hw) (w29 hw) (w30 hw) (w31 hw) (by decide) (prt_met hw it f3 t3 a3) pd_3 rfl rfl rfl (by decide) (Nat.le_of_ble_eq_true rfl) (by decide) (by decide) (pc' := 221) rfl ?_
  rintro _ _ ⟨rfl, p3, rfl, hp3⟩
  show WP _ _ _ _ _ _ _ _ _ _ [(.int p3), (.int (p1 + p2))]
  refine WP.iadd at_221 (pc' := 222) rfl ?_
  obtain ⟨ex, e_ex⟩ : ∃ z, z = ((p1 + p2) + p3) := ⟨_, rfl⟩
  rw [← e_ex]
  refine WP.istore at_222 (pc' := 224) rfl (ls' := #[.val (.int sh), .val (.int pl), .val (.int a1), .val (.int a2), .val (.int a3), .val (.int n), .val (.int m), .val (.int x1), .val (.int y1), .val (.int x2), .val (.int y2), .val (.int it), .val (.int x3), .val (.int y3), .val (.int f1), .val (.int t1), .val (.int f2), .val (.int t2), .val (.int f3), .val (.int t3), .val (.ref q), .val (.int ex)]) rfl ?_
  refine WP.aload at_224 rfl rfl (pc' := 226) rfl ?_
  refine WP.iload at_226 rfl (pc' := 228) rfl ?_
  refine WP.callV (a := q) (z := (⟨"com/example/stampwise/stampwise/history/CoverCounts", "count", "(I)I"⟩ : MethodName)) (Cl := "com/example/stampwise/stampwise/history/CoverCounts") (y := (⟨"com/example/stampwise/stampwise/history/CoverCounts", "count", "(I)I"⟩ : MethodName)) (By := B8) (as := [(.int it)]) (rest := []) at_228 (w32 hw) (w33 hw) (w35 hw) (w34 hw) (w9 hw) (w36 hw) rfl rfl (by decide) hI.exa (cnt_met hw q it len qi _ hI hqi (by omega)) pd_4 rfl rfl rfl (by decide) (Nat.le_of_ble_eq_true rfl) (by decide) (by decide) (pc' := 231) rfl ?_
  rintro _ h10 ⟨r, rfl, hr⟩
  obtain ⟨E1, hE1, hEE1⟩ := own_part qf1 qt1 qi a1 p1 it f1 t1 hqf1 hqt1 hqi (by omega) hp1
  obtain ⟨E2, hE2, hEE2⟩ := own_part qf2 qt2 qi a2 p2 it f2 t2 hqf2 hqt2 hqi (by omega) hp2
  obtain ⟨E3, hE3, hEE3⟩ := own_part qf3 qt3 qi a3 p3 it f3 t3 hqf3 hqt3 hqi (by omega) hp3
  have z0 : ¬ qf1 ≤ 0 ∧ ¬ qt1 ≤ 0 ∧ ¬ qf2 ≤ 0 ∧ ¬ qt2 ≤ 0 ∧ ¬ qf3 ≤ 0 ∧ ¬ qt3 ≤ 0 := by omega
  simp only [z0.1, z0.2.1, z0.2.2.1, z0.2.2.2.1, z0.2.2.2.2.1, z0.2.2.2.2.2, if_false] at hr
  have c1 := c_iadd p1 p2
  have c2 := c_iadd (p1 + p2) p3
  rw [← e_ex] at c2
  have rr := own_r32 r
  have rx := own_r32 ex
  generalize (if qf1 ≤ qi then a1.toInt else 0) = A1 at hr hE1
  generalize (if qt1 ≤ qi then (-a1).toInt else 0) = C1 at hr hE1
  generalize (if qf2 ≤ qi then a2.toInt else 0) = A2 at hr hE2
  generalize (if qt2 ≤ qi then (-a2).toInt else 0) = C2 at hr hE2
  generalize (if qf3 ≤ qi then a3.toInt else 0) = A3 at hr hE3
  generalize (if qt3 ≤ qi then (-a3).toInt else 0) = C3 at hr hE3
  show WP _ _ _ _ _ _ _ _ _ _ [(.int r)]
  refine WP.iload at_231 rfl (pc' := 233) rfl ?_
  refine WP.icmpNe at_233 (tgt := 240) (by decide) (pc' := 236) rfl (fun c233 => ?_) (fun c233 => ?_)
  ·
    refine WP.iconst at_240 (z := (0 : Int32)) rfl (pc' := 241) rfl ?_
    exact WP.retN at_241 (t := .boolean) rfl (by simp) (by decide) (by decide) (by exfalso; omega)
  refine WP.iconst at_236 (z := (1 : Int32)) rfl (pc' := 237) rfl ?_
  refine WP.goto at_237 (pc' := 241) (by decide) ?_
  exact WP.retN at_241 (t := .boolean) rfl (by simp) (by decide) (by decide) own_q1
theorem law_met {l : Launch} {Z : State} {a0 : Array Value} (hw : HW Z a0) {n0 : Nat} {h : Heap} (sh pl a1 a2 a3 : Int32) : OMet l x B0 Z n0 #[(.int sh), (.int pl), (.int a1), (.int a2), (.int a3)] h (fun v h' => v = some (.int 1)) := by
  refine OMet.of_wp (ls0 := #[.val (.int sh), .val (.int pl), .val (.int a1), .val (.int a2), .val (.int a3), .unset, .unset, .unset, .unset, .unset, .unset, .unset, .unset, .unset, .unset, .unset, .unset, .unset, .unset, .unset, .unset, .unset]) pl0 rfl rfl (fun m => own_entry 17 rfl rfl) ?_
  have k32_1 : (1 : Int32).toInt = 1 := by decide
  have k32_4 : (4 : Int32).toInt = 4 := by decide
  have k32_5 : (5 : Int32).toInt = 5 := by decide
  have k32_9 : (9 : Int32).toInt = 9 := by decide
  have k32_14 : (14 : Int32).toInt = 14 := by decide
  have k32_15 : (15 : Int32).toInt = 15 := by decide
  have k32_19 : (19 : Int32).toInt = 19 := by decide
  have k32_24 : (24 : Int32).toInt = 24 := by decide
  have k32_31 : (31 : Int32).toInt = 31 := by decide
  refine WP.iloadN at_0 rfl (pc' := 1) rfl ?_
  refine WP.bipush at_1 (z := (15 : Int32)) rfl (pc' := 3) rfl ?_
  refine WP.iand at_3 (pc' := 4) rfl ?_
  refine WP.iconst at_4 (z := (1 : Int32)) rfl (pc' := 5) rfl ?_
  refine WP.iadd at_5 (pc' := 6) rfl ?_
  obtain ⟨n, e_n⟩ : ∃ z, z = ((sh &&& (15 : Int32)) + (1 : Int32)) := ⟨_, rfl⟩
  rw [← e_n]
  refine WP.istore at_6 (pc' := 8) rfl (ls' := #[.val (.int sh), .val (.int pl), .val (.int a1), .val (.int a2), .val (.int a3), .val (.int n), .unset, .unset, .unset, .unset, .unset, .unset, .unset, .unset, .unset, .unset, .unset, .unset, .unset, .unset, .unset, .unset]) rfl ?_
  refine WP.iload at_8 rfl (pc' := 10) rfl ?_
  refine WP.iconst at_10 (z := (1 : Int32)) rfl (pc' := 11) rfl ?_
  refine WP.iadd at_11 (pc' := 12) rfl ?_
  obtain ⟨m, e_m⟩ : ∃ z, z = (n + (1 : Int32)) := ⟨_, rfl⟩
  rw [← e_m]
  refine WP.istore at_12 (pc' := 14) rfl (ls' := #[.val (.int sh), .val (.int pl), .val (.int a1), .val (.int a2), .val (.int a3), .val (.int n), .val (.int m), .unset, .unset, .unset, .unset, .unset, .unset, .unset, .unset, .unset, .unset, .unset, .unset, .unset, .unset, .unset]) rfl ?_
  have f0 : (sh &&& (15 : Int32)).toInt = sh.toInt % 16 := own_mask sh _ 4 _ (by decide) (by decide) (by decide)
  have fn : n.toInt = (sh &&& (15 : Int32)).toInt + 1 := by rw [e_n, own_iadd] <;> omega
  have fm : m.toInt = n.toInt + 1 := by rw [e_m, own_iadd] <;> omega
  obtain ⟨len, hlen⟩ : ∃ z : Nat, m.toInt = (z : Int) := ⟨m.toInt.toNat, by omega⟩
  replace f0 : 1 ≤ n.toInt ∧ n.toInt ≤ 16 := by omega
  clear fn
  refine WP.iloadN at_14 rfl (pc' := 15) rfl ?_
  refine WP.iconst at_15 (z := (4 : Int32)) rfl (pc' := 16) rfl ?_
  refine WP.iushr at_16 (pc' := 17) rfl ?_
  refine WP.bipush at_17 (z := (31 : Int32)) rfl (pc' := 19) rfl ?_
  refine WP.iand at_19 (pc' := 20) rfl ?_
  refine WP.iload at_20 rfl (pc' := 22) rfl ?_
  refine WP.irem at_22 (own_nz (by omega)) (pc' := 23) rfl ?_
  obtain ⟨x1, e_x1⟩ : ∃ z, z = (((ushr sh (4 : Int32)) &&& (31 : Int32)) % m) := ⟨_, rfl⟩
  rw [← e_x1]
  refine WP.istore at_23 (pc' := 25) rfl (ls' := #[.val (.int sh), .val (.int pl), .val (.int a1), .val (.int a2), .val (.int a3), .val (.int n), .val (.int m), .val (.int x1), .unset, .unset, .unset, .unset, .unset, .unset, .unset, .unset, .unset, .unset, .unset, .unset, .unset, .unset]) rfl ?_
  have f_x1 : ((ushr sh (4 : Int32)) &&& (31 : Int32)).toInt = ((ushr sh (4 : Int32))).toInt % 32 := own_mask _ _ 5 _ (by decide) (by decide) (by decide)
  have g_x1 := (c_iremV ((ushr sh (4 : Int32)) &&& (31 : Int32)) m).1 (by omega) (by omega)
  rw [← e_x1] at g_x1
  replace g_x1 : 0 ≤ x1.toInt ∧ x1.toInt < m.toInt := ⟨g_x1.1, g_x1.2.1⟩
  clear f_x1
  refine WP.iloadN at_25 rfl (pc' := 26) rfl ?_
  refine WP.bipush at_26 (z := (9 : Int32)) rfl (pc' := 28) rfl ?_
  refine WP.iushr at_28 (pc' := 29) rfl ?_
  refine WP.bipush at_29 (z := (31 : Int32)) rfl (pc' := 31) rfl ?_
  refine WP.iand at_31 (pc' := 32) rfl ?_
  refine WP.iload at_32 rfl (pc' := 34) rfl ?_
  refine WP.irem at_34 (own_nz (by omega)) (pc' := 35) rfl ?_
  obtain ⟨y1, e_y1⟩ : ∃ z, z = (((ushr sh (9 : Int32)) &&& (31 : Int32)) % m) := ⟨_, rfl⟩
  rw [← e_y1]
  refine WP.istore at_35 (pc' := 37) rfl (ls' := #[.val (.int sh), .val (.int pl), .val (.int a1), .val (.int a2), .val (.int a3), .val (.int n), .val (.int m), .val (.int x1), .val (.int y1), .unset, .unset, .unset, .unset, .unset, .unset, .unset, .unset, .unset, .unset, .unset, .unset, .unset]) rfl ?_
  have f_y1 : ((ushr sh (9 : Int32)) &&& (31 : Int32)).toInt = ((ushr sh (9 : Int32))).toInt % 32 := own_mask _ _ 5 _ (by decide) (by decide) (by decide)
  have g_y1 := (c_iremV ((ushr sh (9 : Int32)) &&& (31 : Int32)) m).1 (by omega) (by omega)
  rw [← e_y1] at g_y1
  replace g_y1 : 0 ≤ y1.toInt ∧ y1.toInt < m.toInt := ⟨g_y1.1, g_y1.2.1⟩
  clear f_y1
  refine WP.iloadN at_37 rfl (pc' := 38) rfl ?_
  refine WP.bipush at_38 (z := (14 : Int32)) rfl (pc' := 40) rfl ?_
  refine WP.iushr at_40 (pc' := 41) rfl ?_
  refine WP.bipush at_41 (z := (31 : Int32)) rfl (pc' := 43) rfl ?_
  refine WP.iand at_43 (pc' := 44) rfl ?_
  refine WP.iload at_44 rfl (pc' := 46) rfl ?_
  refine WP.irem at_46 (own_nz (by omega)) (pc' := 47) rfl ?_
  obtain ⟨x2, e_x2⟩ : ∃ z, z = (((ushr sh (14 : Int32)) &&& (31 : Int32)) % m) := ⟨_, rfl⟩
  rw [← e_x2]
  refine WP.istore at_47 (pc' := 49) rfl (ls' := #[.val (.int sh), .val (.int pl), .val (.int a1), .val (.int a2), .val (.int a3), .val (.int n), .val (.int m), .val (.int x1), .val (.int y1), .val (.int x2), .unset, .unset, .unset, .unset, .unset, .unset, .unset, .unset, .unset, .unset, .unset, .unset]) rfl ?_
  have f_x2 : ((ushr sh (14 : Int32)) &&& (31 : Int32)).toInt = ((ushr sh (14 : Int32))).toInt % 32 := own_mask _ _ 5 _ (by decide) (by decide) (by decide)
  have g_x2 := (c_iremV ((ushr sh (14 : Int32)) &&& (31 : Int32)) m).1 (by omega) (by omega)
  rw [← e_x2] at g_x2
  replace g_x2 : 0 ≤ x2.toInt ∧ x2.toInt < m.toInt := ⟨g_x2.1, g_x2.2.1⟩
  clear f_x2
  refine WP.iloadN at_49 rfl (pc' := 50) rfl ?_
  refine WP.bipush at_50 (z := (19 : Int32)) rfl (pc' := 52) rfl ?_
  refine WP.iushr at_52 (pc' := 53) rfl ?_
  refine WP.bipush at_53 (z := (31 : Int32)) rfl (pc' := 55) rfl ?_
  refine WP.iand at_55 (pc' := 56) rfl ?_
  refine WP.iload at_56 rfl (pc' := 58) rfl ?_
  refine WP.irem at_58 (own_nz (by omega)) (pc' := 59) rfl ?_
  obtain ⟨y2, e_y2⟩ : ∃ z, z = (((ushr sh (19 : Int32)) &&& (31 : Int32)) % m) := ⟨_, rfl⟩
  rw [← e_y2]
  refine WP.istore at_59 (pc' := 61) rfl (ls' := #[.val (.int sh), .val (.int pl), .val (.int a1), .val (.int a2), .val (.int a3), .val (.int n), .val (.int m), .val (.int x1), .val (.int y1), .val (.int x2), .val (.int y2), .unset, .unset, .unset, .unset, .unset, .unset, .unset, .unset, .unset, .unset, .unset]) rfl ?_
  have f_y2 : ((ushr sh (19 : Int32)) &&& (31 : Int32)).toInt = ((ushr sh (19 : Int32))).toInt % 32 := own_mask _ _ 5 _ (by decide) (by decide) (by decide)
  have g_y2 := (c_iremV ((ushr sh (19 : Int32)) &&& (31 : Int32)) m).1 (by omega) (by omega)
  rw [← e_y2] at g_y2
  replace g_y2 : 0 ≤ y2.toInt ∧ y2.toInt < m.toInt := ⟨g_y2.1, g_y2.2.1⟩
  clear f_y2
  refine WP.iloadN at_61 rfl (pc' := 62) rfl ?_
  refine WP.bipush at_62 (z := (24 : Int32)) rfl (pc' := 64) rfl ?_
  refine WP.iushr at_64 (pc' := 65) rfl ?_
  refine WP.bipush at_65 (z := (31 : Int32)) rfl (pc' := 67) rfl ?_
  refine WP.iand at_67 (pc' := 68) rfl ?_
  refine WP.iload at_68 rfl (pc' := 70) rfl ?_
  refine WP.irem at_70 (own_nz (by omega)) (pc' := 71) rfl ?_
  obtain ⟨it, e_it⟩ : ∃ z, z = (((ushr sh (24 : Int32)) &&& (31 : Int32)) % n) := ⟨_, rfl⟩
  rw [← e_it]
  refine WP.istore at_71 (pc' := 73) rfl (ls' := #[.val (.int sh), .val (.int pl), .val (.int a1), .val (.int a2), .val (.int a3), .val (.int n), .val (.int m), .val (.int x1), .val (.int y1), .val (.int x2), .val (.int y2), .val (.int it), .unset, .unset, .unset, .unset, .unset, .unset, .unset, .unset, .unset, .unset]) rfl ?_
  have f_it : ((ushr sh (24 : Int32)) &&& (31 : Int32)).toInt = ((ushr sh (24 : Int32))).toInt % 32 := own_mask _ _ 5 _ (by decide) (by decide) (by decide)
  have g_it := (c_iremV ((ushr sh (24 : Int32)) &&& (31 : Int32)) n).1 (by omega) (by omega)
  rw [← e_it] at g_it
  replace g_it : 0 ≤ it.toInt ∧ it.toInt < n.toInt := ⟨g_it.1, g_it.2.1⟩
  clear f_it
  refine WP.iloadN at_73 rfl (pc' := 74) rfl ?_
  refine WP.bipush at_74 (z := (31 : Int32)) rfl (pc' := 76) rfl ?_
  refine WP.iand at_76 (pc' := 77) rfl ?_
  refine WP.iload at_77 rfl (pc' := 79) rfl ?_
  refine WP.irem at_79 (own_nz (by omega)) (pc' := 80) rfl ?_
  obtain ⟨x3, e_x3⟩ : ∃ z, z = ((pl &&& (31 : Int32)) % m) := ⟨_, rfl⟩
  rw [← e_x3]
  refine WP.istore at_80 (pc' := 82) rfl (ls' := #[.val (.int sh), .val (.int pl), .val (.int a1), .val (.int a2), .val (.int a3), .val (.int n), .val (.int m), .val (.int x1), .val (.int y1), .val (.int x2), .val (.int y2), .val (.int it), .val (.int x3), .unset, .unset, .unset, .unset, .unset, .unset, .unset, .unset, .unset]) rfl ?_
  have f_x3 : (pl &&& (31 : Int32)).toInt = (pl).toInt % 32 := own_mask _ _ 5 _ (by decide) (by decide) (by decide)
  have g_x3 := (c_iremV (pl &&& (31 : Int32)) m).1 (by omega) (by omega)
  rw [← e_x3] at g_x3
  replace g_x3 : 0 ≤ x3.toInt ∧ x3.toInt < m.toInt := ⟨g_x3.1, g_x3.2.1⟩
  clear f_x3
  refine WP.iloadN at_82 rfl (pc' := 83) rfl ?_
  refine WP.iconst at_83 (z := (5 : Int32)) rfl (pc' := 84) rfl ?_
  refine WP.iushr at_84 (pc' := 85) rfl ?_
  refine WP.bipush at_85 (z := (31 : Int32)) rfl (pc' := 87) rfl ?_
  refine WP.iand at_87 (pc' := 88) rfl ?_
  refine WP.iload at_88 rfl (pc' := 90) rfl ?_
  refine WP.irem at_90 (own_nz (by omega)) (pc' := 91) rfl ?_
  obtain ⟨y3, e_y3⟩ : ∃ z, z = (((ushr pl (5 : Int32)) &&& (31 : Int32)) % m) := ⟨_, rfl⟩
  rw [← e_y3]
  refine WP.istore at_91 (pc' := 93) rfl (ls' := #[.val (.int sh), .val (.int pl), .val (.int a1), .val (.int a2), .val (.int a3), .val (.int n), .val (.int m), .val (.int x1), .val (.int y1), .val (.int x2), .val (.int y2), .val (.int it), .val (.int x3), .val (.int y3), .unset, .unset, .unset, .unset, .unset, .unset, .unset, .unset]) rfl ?_
  have f_y3 : ((ushr pl (5 : Int32)) &&& (31 : Int32)).toInt = ((ushr pl (5 : Int32))).toInt % 32 := own_mask _ _ 5 _ (by decide) (by decide) (by decide)
  have g_y3 := (c_iremV ((ushr pl (5 : Int32)) &&& (31 : Int32)) m).1 (by omega) (by omega)
  rw [← e_y3] at g_y3
  replace g_y3 : 0 ≤ y3.toInt ∧ y3.toInt < m.toInt := ⟨g_y3.1, g_y3.2.1⟩
  clear f_y3
  refine WP.iload at_93 rfl (pc' := 95) rfl ?_
  refine WP.iload at_95 rfl (pc' := 97) rfl ?_
  refine WP.callS (y := (⟨"java/lang/Math", "min", "(II)I"⟩ : MethodName)) (By := B1) (as := [(.int x1), (.int y1)]) (rest := []) at_97 (w0 hw) (w1 hw) (w2 hw) (w3 hw) (by decide) (min_met hw x1 y1) pd_5 rfl rfl rfl (by decide) (Nat.le_of_ble_eq_true rfl) (by decide) (by decide) (pc' := 100) rfl ?_
  rintro _ _ ⟨rfl, f1, rfl, hf1⟩
  show WP _ _ _ _ _ _ _ _ _ _ [(.int f1)]
  refine WP.istore at_100 (pc' := 102) rfl (ls' := #[.val (.int sh), .val (.int pl), .val (.int a1), .val (.int a2), .val (.int a3), .val (.int n), .val (.int m), .val (.int x1), .val (.int y1), .val (.int x2), .val (.int y2), .val (.int it), .val (.int x3), .val (.int y3), .val (.int f1), .unset, .unset, .unset, .unset, .unset, .unset, .unset]) rfl ?_
  refine WP.iload at_102 rfl (pc' := 104) rfl ?_
  refine WP.iload at_104 rfl (pc' := 106) rfl ?_
  refine WP.callS (y := (⟨"java/lang/Math", "max", "(II)I"⟩ : MethodName)) (By := B2) (as := [(.int x1), (.int y1)]) (rest := []) at_106 (w4 hw) (w5 hw) (w2 hw) (w6 hw) (by decide) (max_met hw x1 y1) pd_5 rfl rfl rfl (by decide) (Nat.le_of_ble_eq_true rfl) (by decide) (by decide) (pc' := 109) rfl ?_
  rintro _ _ ⟨rfl, t1, rfl, ht1⟩
  show WP _ _ _ _ _ _ _ _ _ _ [(.int t1)]
  refine WP.istore at_109 (pc' := 111) rfl (ls' := #[.val (.int sh), .val (.int pl), .val (.int a1), .val (.int a2), .val (.int a3), .val (.int n), .val (.int m), .val (.int x1), .val (.int y1), .val (.int x2), .val (.int y2), .val (.int it), .val (.int x3), .val (.int y3), .val (.int f1), .val (.int t1), .unset, .unset, .unset, .unset, .unset, .unset]) rfl ?_
  refine WP.iload at_111 rfl (pc' := 113) rfl ?_
  refine WP.iload at_113 rfl (pc' := 115) rfl ?_
  refine WP.callS (y := (⟨"java/lang/Math", "min", "(II)I"⟩ : MethodName)) (By := B1) (as := [(.int x2), (.int y2)]) (rest := []) at_115 (w0 hw) (w1 hw) (w2 hw) (w3 hw) (by decide) (min_met hw x2 y2) pd_5 rfl rfl rfl (by decide) (Nat.le_of_ble_eq_true rfl) (by decide) (by decide) (pc' := 118) rfl ?_
  rintro _ _ ⟨rfl, f2, rfl, hf2⟩
  show WP _ _ _ _ _ _ _ _ _ _ [(.int f2)]
  refine WP.istore at_118 (pc' := 120) rfl (ls' := #[.val (.int sh), .val (.int pl), .val (.int a1), .val (.int a2), .val (.int a3), .val (.int n), .val (.int m), .val (.int x1), .val (.int y1), .val (.int x2), .val (.int y2), .val (.int it), .val (.int x3), .val (.int y3), .val (.int f1), .val (.int t1), .val (.int f2), .unset, .unset, .unset, .unset, .unset]) rfl ?_
  refine WP.iload at_120 rfl (pc' := 122) rfl ?_
  refine WP.iload at_122 rfl (pc' := 124) rfl ?_
  refine WP.callS (y := (⟨"java/lang/Math", "max", "(II)I"⟩ : MethodName)) (By := B2) (as := [(.int x2), (.int y2)]) (rest := []) at_124 (w4 hw) (w5 hw) (w2 hw) (w6 hw) (by decide) (max_met hw x2 y2) pd_5 rfl rfl rfl (by decide) (Nat.le_of_ble_eq_true rfl) (by decide) (by decide) (pc' := 127) rfl ?_
  rintro _ _ ⟨rfl, t2, rfl, ht2⟩
  show WP _ _ _ _ _ _ _ _ _ _ [(.int t2)]
  refine WP.istore at_127 (pc' := 129) rfl (ls' := #[.val (.int sh), .val (.int pl), .val (.int a1), .val (.int a2), .val (.int a3), .val (.int n), .val (.int m), .val (.int x1), .val (.int y1), .val (.int x2), .val (.int y2), .val (.int it), .val (.int x3), .val (.int y3), .val (.int f1), .val (.int t1), .val (.int f2), .val (.int t2), .unset, .unset, .unset, .unset]) rfl ?_
  refine WP.iload at_129 rfl (pc' := 131) rfl ?_
  refine WP.iload at_131 rfl (pc' := 133) rfl ?_
  refine WP.callS (y := (⟨"java/lang/Math", "min", "(II)I"⟩ : MethodName)) (By := B1) (as := [(.int x3), (.int y3)]) (rest := []) at_133 (w0 hw) (w1 hw) (w2 hw) (w3 hw) (by decide) (min_met hw x3 y3) pd_5 rfl rfl rfl (by decide) (Nat.le_of_ble_eq_true rfl) (by decide) (by decide) (pc' := 136) rfl ?_
  rintro _ _ ⟨rfl, f3, rfl, hf3⟩
  show WP _ _ _ _ _ _ _ _ _ _ [(.int f3)]
  refine WP.istore at_136 (pc' := 138) rfl (ls' := #[.val (.int sh), .val (.int pl), .val (.int a1), .val (.int a2), .val (.int a3), .val (.int n), .val (.int m), .val (.int x1), .val (.int y1), .val (.int x2), .val (.int y2), .val (.int it), .val (.int x3), .val (.int y3), .val (.int f1), .val (.int t1), .val (.int f2), .val (.int t2), .val (.int f3), .unset, .unset, .unset]) rfl ?_
  refine WP.iload at_138 rfl (pc' := 140) rfl ?_
  refine WP.iload at_140 rfl (pc' := 142) rfl ?_
  refine WP.callS (y := (⟨"java/lang/Math", "max", "(II)I"⟩ : MethodName)) (By := B2) (as := [(.int x3), (.int y3)]) (rest := []) at_142 (w4 hw) (w5 hw) (w2 hw) (w6 hw) (by decide) (max_met hw x3 y3) pd_5 rfl rfl rfl (by decide) (Nat.le_of_ble_eq_true rfl) (by decide) (by decide) (pc' := 145) rfl ?_
  rintro _ _ ⟨rfl, t3, rfl, ht3⟩
  show WP _ _ _ _ _ _ _ _ _ _ [(.int t3)]
  refine WP.istore at_145 (pc' := 147) rfl (ls' := #[.val (.int sh), .val (.int pl), .val (.int a1), .val (.int a2), .val (.int a3), .val (.int n), .val (.int m), .val (.int x1), .val (.int y1), .val (.int x2), .val (.int y2), .val (.int it), .val (.int x3), .val (.int y3), .val (.int f1), .val (.int t1), .val (.int f2), .val (.int t2), .val (.int f3), .val (.int t3), .unset, .unset]) rfl ?_
  exact law_147 hw sh pl a1 a2 a3 n m x1 y1 x2 y2 it x3 y3 f1 t1 f2 t2 f3 t3 len f0 (by omega) (by omega) (by omega) (by omega) (by omega)
theorem comes_1 {Post : Tables → Env → Array Value → State → Outcome → State → Prop} (hpost : ∀ tb e args s v u, (limb_1_1.after args s (.returned v) u = true ∧ limb_1_2.after args s (.returned v) u = true ∧ True) → FrameEnd s (.returned v) u (Jvm.fieldLocs frame_1_writes args s ++ Jvm.arrayLocs frame_1_arrays args s ++ Jvm.staticLocs frame_1_statics s) 16 128 → Post tb e args s (.returned v) u) :
    ArmFor flags0 classFile x code maxLocals ret World_1 tables_1 room_1 Calls_1 rest_1 Pre_1 Post := by
  intro l hfl _ _ p e ha hc hk s m args below hf hA hF happ hP
  obtain ⟨hcalls, hrest, hpre⟩ := hP
  obtain ⟨-, -, -, hnamed, -, -, -, hat⟩ := (Spec.applies_iff hf).mp happ
  obtain ⟨hg, hn⟩ := and_e (Cond.before_iff.mp (show (Jvm.Cond.and given_1 narrow_1).before args s = true from hpre))
  obtain ⟨q0, g0⟩ := and_e hg
  obtain ⟨a0, a1, a2, a3, a4, rfl⟩ : ∃ (a0 : Value) (a1 : Value) (a2 : Value) (a3 : Value) (a4 : Value), args = #[a0, a1, a2, a3, a4] := by
    have hs : args.size = 5 := by simpa [Cond.value, given_1] using q0
    obtain ⟨L⟩ := args
    match L, hs with
    | [a0, a1, a2, a3, a4], _ => exact ⟨a0, a1, a2, a3, a4, rfl⟩
  have hw : HW s #[a0, a1, a2, a3, a4] := fun d (hd : d ∈ tables_1) => atoms_spec (ws := Jvm.Cond.code x code maxLocals ret :: tables_1) hat d (List.mem_cons_of_mem _ hd)
  obtain ⟨p0, g1⟩ := and_e g0
  obtain ⟨i0, z0⟩ := is_v p0
  obtain rfl : a0 = (.int i0) := Option.some.inj z0
  obtain ⟨p1, g2⟩ := and_e g1
  obtain ⟨i1, z1⟩ := is_v p1
  obtain rfl : a1 = (.int i1) := Option.some.inj z1
  obtain ⟨p2, g3⟩ := and_e g2
  obtain ⟨i2, z2⟩ := is_v p2
  obtain rfl : a2 = (.int i2) := Option.some.inj z2
  obtain ⟨p3, g4⟩ := and_e g3
  obtain ⟨i3, z3⟩ := is_v p3
  obtain rfl : a3 = (.int i3) := Option.some.inj z3
  obtain ⟨i4, z4⟩ := is_v g4
  obtain rfl : a4 = (.int i4) := Option.some.inj z4
  obtain ⟨n, o, h1, h2, h3, _, L, rfl, ⟨rfl, N, -⟩, hq⟩ := law_met hw i0 i1 i2 i3 i4 (Nat.le_refl _) tables_1 p e ha hc hk s m _ below hf ((Spec.applies_iff_loose hf).mp happ).1 ⟨rfl, State.Warmed39.refl s, rfl⟩ trivial
  refine ⟨n, _, h1, h2, h3, hpost _ _ _ _ _ _ ⟨Cond.after_iff.mpr rfl, Cond.after_iff.mpr (eq_i res_at (Term.int_eval (1)) rfl), trivial⟩ ⟨hq.1, hq.2.1, (hq.2.2.sift fun y hy => Or.inr (N y hy)).mono (by decide) (by decide)⟩⟩
theorem main_1_1 : Claimed_1_1 := comes_1 fun _ _ _ _ _ _ h hF => ⟨h.1, hF⟩
theorem main_1_2 : Claimed_1_2 := comes_1 fun _ _ _ _ _ _ h hF => ⟨h.2.1, hF⟩
end Jvm.Pilot.@@N@@
namespace Jvm.Pilot.@@N@@
open Jvm Jvm.ClassFile Sem Op Lib Jvm.Free Jvm.Stand Jvm.Pilot.@@N@@.Jvm.D
/-! MADE BY PROGRAM (witnessworld.py) out of the Statement's table words and the real class files: 10 classes; the members and pool entries that the words name. The judged class is class 1, her method 2. -/
namespace start1
open Jvm.ClassFile
def u (s : String) : CpInfo := .utf8 (stringToUtf16 s)
/-- a pool by its gaps: so many unusable entries, then the entry; so many at the end -/
def gap : Nat → List CpInfo → List CpInfo
  | 0, r => r
  | n + 1, r => .unusable :: gap n r
def poolList (es : List (Nat × CpInfo)) (last : Nat) : List CpInfo := es.foldr (fun e r => gap e.1 (e.2 :: r)) (gap last [])
def pool (es : List (Nat × CpInfo)) (last : Nat) : Array CpInfo := ⟨poolList es last⟩
def fileOf (pool : Array CpInfo) (this : Nat) (attrs : Array Attribute := #[]) (ms : Array MethodInfo := #[]) (fl : Nat := 33) (sup : Nat := 0) (ifs : Array Nat := #[]) (fds : Array FieldInfo := #[]) : ClassFile where
  minorVersion := 0
  majorVersion := 65
  constantPool := pool
  accessFlags := fl
  thisClass := this
  superClass := sup
  interfaces := ifs
  fields := fds
  methods := ms
  attributes := attrs
def plain (name : String) (sup : Option ClassId) : Class where
  name := name
  kind := .ordinary
  loader := none
  accessFlags := 33
  super := sup
  interfaces := #[]
  cf := none
  fields := #[]
  methods := #[]
  instanceTypes := #[]
  staticTypes := #[]
  resolved := #[]
  callSites := []
  init := .initialized
  statics := none
  mirror := none

def pool0 : Array CpInfo := pool [(5, u "<init>"), (0, u "()V"), (1, .class_ 10), (1, u "java/lang/Object")] 113

def k0c0 : Code := { maxStack := 0, maxLocals := 1, code := object_method_1_code, exceptionTable := #[], attributes := #[] }
def k0m0 : Method := { name := "<init>", desc := "()V", sig := { parameters := [], returnType := none }, accessFlags := 1, code := some k0c0 }
/-- java/lang/Object -/
def k0 : Class := { plain "java/lang/Object" none with
  accessFlags := 33
  interfaces := #[]
  cf := some (fileOf pool0 8 #[] #[{ accessFlags := 1, nameIndex := 5, descriptorIndex := 6, attributes := #[] }] 33 0 #[] #[])
  fields := #[]
  methods := #[k0m0]
  instanceTypes := #[]
  staticTypes := #[]
  resolved := Array.replicate 124 none
  statics := none }

def pool1 : Array CpInfo := pool [(2, .class_ 4), (1, u "java/lang/Object"), (0, u "<init>"), (0, u "()V"), (0, .methodref 8 9), (0, .class_ 10), (0, .nameAndType 11 12), (0, u "java/lang/Math"), (0, u "min"), (0, u "(II)I"), (0, .methodref 8 14), (0, .nameAndType 15 12), (0, u "max"), (0, .class_ 17), (0, u "com/example/stampwise/stampwise/history/CoverCounts"), (0, .methodref 16 19), (0, .nameAndType 5 20), (0, u "(I)V"), (0, .methodref 16 22), (0, .nameAndType 23 24), (0, u "add"), (0, u "(III)V"), (0, .methodref 26 27), (0, .class_ 28), (0, .nameAndType 29 30), (0, u "com/example/stampwise/stampwise/history/CoverCountsCountPinLaw"), (0, u "part"), (0, u "(IIII)I"), (0, .methodref 16 32), (0, .nameAndType 33 34), (0, u "count"), (0, u "(I)I"), (3, u "law"), (0, u "(IIIII)Z")] 2

def k1m0 : Method := { name := "<init>", desc := "()V", sig := { parameters := [], returnType := none }, accessFlags := 2, code := none }
def k1c1 : Code := { maxStack := 2, maxLocals := 4, code := method_2_code, exceptionTable := #[], attributes := #[] }
def k1m1 : Method := { name := "part", desc := "(IIII)I", sig := { parameters := [.int, .int, .int, .int], returnType := some .int }, accessFlags := 10, code := some k1c1 }
def k1c2 : Code := { maxStack := 5, maxLocals := 22, code := code, exceptionTable := #[], attributes := #[] }
def k1m2 : Method := { name := "law", desc := "(IIIII)Z", sig := { parameters := [.int, .int, .int, .int, .int], returnType := some .boolean }, accessFlags := 9, code := some k1c2 }
/-- com/example/stampwise/stampwise/history/CoverCountsCountPinLaw -/
def k1 : Class := { plain "com/example/stampwise/stampwise/history/CoverCountsCountPinLaw" (some 0) with
  accessFlags := 49
  interfaces := #[]
  cf := some (fileOf pool1 26 #[] #[{ accessFlags := 2, nameIndex := 5, descriptorIndex := 6, attributes := #[] }, { accessFlags := 10, nameIndex := 29, descriptorIndex := 30, attributes := #[] }, { accessFlags := 9, nameIndex := 38, descriptorIndex := 39, attributes := #[] }] 49 2 #[] #[])
  fields := #[]
  methods := #[k1m0, k1m1, k1m2]
  instanceTypes := #[]
  staticTypes := #[]
  resolved := Array.replicate 42 none
  statics := none }

def pool2 : Array CpInfo := pool [(1, .class_ 2), (0, u "java/lang/Math"), (1, .class_ 6), (1, u "java/lang/Object"), (0, u "<init>"), (0, u "()V"), (89, .class_ 100), (1, u "java/lang/Math$RandomNumberGeneratorHolder"), (71, u "negativeZeroFloatBits"), (0, u "J"), (2, u "negativeZeroDoubleBits"), (21, u "max"), (2, u "min"), (43, u "$assertionsDisabled"), (0, u "Z"), (88, u "(II)I"), (2, u "twoToTheDoubleScaleDown"), (0, u "D"), (4, u "twoToTheDoubleScaleUp"), (9, u "E"), (3, u "PI"), (2, u "TAU"), (2, u "DEGREES_TO_RADIANS"), (0, u "RADIANS_TO_DEGREES")] 94

def k2m0 : Method := { name := "<init>", desc := "()V", sig := { parameters := [], returnType := none }, accessFlags := 2, code := none }
def k2c1 : Code := { maxStack := 2, maxLocals := 2, code := jdk_29_method_65_code, exceptionTable := #[], attributes := #[] }
def k2m1 : Method := { name := "max", desc := "(II)I", sig := { parameters := [.int, .int], returnType := some .int }, accessFlags := 9, code := some k2c1 }
def k2c2 : Code := { maxStack := 2, maxLocals := 2, code := jdk_29_method_69_code, exceptionTable := #[], attributes := #[] }
def k2m2 : Method := { name := "min", desc := "(II)I", sig := { parameters := [.int, .int], returnType := some .int }, accessFlags := 9, code := some k2c2 }
/-- java/lang/Math -/
def k2 : Class := { plain "java/lang/Math" (some 0) with
  accessFlags := 49
  interfaces := #[]
  cf := some (fileOf pool2 1 #[.nestMembers #[98]] #[{ accessFlags := 2, nameIndex := 7, descriptorIndex := 8, attributes := #[] }, { accessFlags := 9, nameIndex := 198, descriptorIndex := 335, attributes := #[] }, { accessFlags := 9, nameIndex := 201, descriptorIndex := 335, attributes := #[] }] 49 4 #[] #[{ accessFlags := 25, nameIndex := 354, descriptorIndex := 339, attributes := #[] }, { accessFlags := 25, nameIndex := 358, descriptorIndex := 339, attributes := #[] }, { accessFlags := 25, nameIndex := 361, descriptorIndex := 339, attributes := #[] }, { accessFlags := 26, nameIndex := 364, descriptorIndex := 339, attributes := #[] }, { accessFlags := 26, nameIndex := 365, descriptorIndex := 339, attributes := #[] }, { accessFlags := 26, nameIndex := 172, descriptorIndex := 173, attributes := #[] }, { accessFlags := 26, nameIndex := 176, descriptorIndex := 173, attributes := #[] }, { accessFlags := 8, nameIndex := 344, descriptorIndex := 339, attributes := #[] }, { accessFlags := 8, nameIndex := 338, descriptorIndex := 339, attributes := #[] }, { accessFlags := 4120, nameIndex := 245, descriptorIndex := 246, attributes := #[] }])
  fields := #[{ name := "E", type := .double, accessFlags := 25, slot := 0, constantValue := 0 }, { name := "PI", type := .double, accessFlags := 25, slot := 1, constantValue := 0 }, { name := "TAU", type := .double, accessFlags := 25, slot := 2, constantValue := 0 }, { name := "DEGREES_TO_RADIANS", type := .double, accessFlags := 26, slot := 3, constantValue := 0 }, { name := "RADIANS_TO_DEGREES", type := .double, accessFlags := 26, slot := 4, constantValue := 0 }, { name := "negativeZeroFloatBits", type := .long, accessFlags := 26, slot := 5, constantValue := 0 }, { name := "negativeZeroDoubleBits", type := .long, accessFlags := 26, slot := 6, constantValue := 0 }, { name := "twoToTheDoubleScaleUp", type := .double, accessFlags := 8, slot := 7, constantValue := 0 }, { name := "twoToTheDoubleScaleDown", type := .double, accessFlags := 8, slot := 8, constantValue := 0 }, { name := "$assertionsDisabled", type := .boolean, accessFlags := 4120, slot := 9, constantValue := 0 }]
  methods := #[k2m0, k2m1, k2m2]
  instanceTypes := #[]
  staticTypes := #[.double, .double, .double, .double, .double, .long, .long, .double, .double, .boolean]
  resolved := Array.replicate 460 none
  statics := none }

def pool3 : Array CpInfo := pool [(1, .methodref 2 3), (0, .class_ 4), (0, .nameAndType 5 6), (0, u "java/lang/Object"), (0, u "<init>"), (0, u "()V"), (0, .fieldref 8 9), (0, .class_ 10), (0, .nameAndType 11 12), (0, u "com/example/stampwise/stampwise/history/CoverCounts"), (0, u "differences"), (0, u "[I"), (0, .methodref 8 14), (0, .nameAndType 15 16), (0, u "addFrom"), (0, u "(II)V"), (0, u "(I)V"), (2, u "add"), (0, u "(III)V"), (0, u "count"), (0, u "(I)I")] 3

def k3c0 : Code := { maxStack := 3, maxLocals := 2, code := prog_105_method_1_code, exceptionTable := #[], attributes := #[] }
def k3m0 : Method := { name := "<init>", desc := "(I)V", sig := { parameters := [.int], returnType := none }, accessFlags := 0, code := some k3c0 }
def k3c1 : Code := { maxStack := 3, maxLocals := 4, code := prog_105_method_2_code, exceptionTable := #[], attributes := #[] }
def k3m1 : Method := { name := "add", desc := "(III)V", sig := { parameters := [.int, .int, .int], returnType := none }, accessFlags := 0, code := some k3c1 }
def k3c2 : Code := { maxStack := 3, maxLocals := 4, code := prog_105_method_3_code, exceptionTable := #[], attributes := #[] }
def k3m2 : Method := { name := "count", desc := "(I)I", sig := { parameters := [.int], returnType := some .int }, accessFlags := 0, code := some k3c2 }
def k3c3 : Code := { maxStack := 4, maxLocals := 4, code := prog_105_method_4_code, exceptionTable := #[], attributes := #[] }
def k3m3 : Method := { name := "addFrom", desc := "(II)V", sig := { parameters := [.int, .int], returnType := none }, accessFlags := 2, code := some k3c3 }
/-- com/example/stampwise/stampwise/history/CoverCounts -/
def k3 : Class := { plain "com/example/stampwise/stampwise/history/CoverCounts" (some 0) with
  accessFlags := 48
  interfaces := #[]
  cf := some (fileOf pool3 8 #[] #[{ accessFlags := 0, nameIndex := 5, descriptorIndex := 17, attributes := #[] }, { accessFlags := 0, nameIndex := 20, descriptorIndex := 21, attributes := #[] }, { accessFlags := 0, nameIndex := 22, descriptorIndex := 23, attributes := #[] }, { accessFlags := 2, nameIndex := 15, descriptorIndex := 16, attributes := #[] }] 48 2 #[] #[{ accessFlags := 18, nameIndex := 11, descriptorIndex := 12, attributes := #[] }])
  fields := #[{ name := "differences", type := (.array .int), accessFlags := 18, slot := 0, constantValue := 0 }]
  methods := #[k3m0, k3m1, k3m2, k3m3]
  instanceTypes := #[(.array .int)]
  staticTypes := #[]
  resolved := Array.replicate 27 none
  statics := none }

def pool4 : Array CpInfo := pool [(1, u "java/lang/Cloneable"), (0, .class_ 1), (0, u "java/lang/Object"), (0, .class_ 3)] 3

/-- java/lang/Cloneable -/
def k4 : Class := { plain "java/lang/Cloneable" (some 0) with
  accessFlags := 1537
  interfaces := #[]
  cf := some (fileOf pool4 2 #[] #[] 1537 4 #[] #[])
  fields := #[]
  methods := #[]
  instanceTypes := #[]
  staticTypes := #[]
  resolved := Array.replicate 8 none
  statics := none }

def pool5 : Array CpInfo := pool [(1, u "java/io/Serializable"), (0, .class_ 1), (0, u "java/lang/Object"), (0, .class_ 3)] 3

/-- java/io/Serializable -/
def k5 : Class := { plain "java/io/Serializable" (some 0) with
  accessFlags := 1537
  interfaces := #[]
  cf := some (fileOf pool5 2 #[] #[] 1537 4 #[] #[])
  fields := #[]
  methods := #[]
  instanceTypes := #[]
  staticTypes := #[]
  resolved := Array.replicate 8 none
  statics := none }

/-- the primitive byte -/
def k6 : Class := { plain "byte" none with kind := .primitive 'B', accessFlags := 0x411 }
/-- [B -/
def k7 : Class := { plain "[B" (some 0) with kind := .array 6 .byte, interfaces := #[4, 5], accessFlags := 1041 }

/-- the primitive int -/
def k8 : Class := { plain "int" none with kind := .primitive 'I', accessFlags := 0x411 }
/-- [I -/
def k9 : Class := { plain "[I" (some 0) with kind := .array 8 .int, interfaces := #[4, 5], accessFlags := 1041 }

def heap : Heap := #[]
def classes : Array Class := #[k0, k1, k2, k3, k4, k5, k6, k7, k8, k9]
def interned : List (Array UInt16 × Addr) := []
def slotsUsed : Nat := 0
def theMethod : MethodId := ⟨1, 2⟩
def args0 : Array Value := #[.int 5, .int 1, .int 2, .int 3, .int 1]
def aboutOver (below : List Frame) : State where
  vm := { classes := classes, interned := interned.toArray }
  heap := heap
  slotsUsed := slotsUsed
  threads := #[{ frames := .invoking theMethod args0 :: below }]
def below0 : List Frame := [.native { method := ⟨0, 0⟩, args := #[] }]
def about1 : State := aboutOver below0
def p0 : Program := .bare "" "" ""
def e0 : Env := launch0.env 0 0 0
theorem w_frames : about1.frames = Frame.invoking theMethod args0 :: below0 := rfl
set_option maxRecDepth 65536 in
theorem w_args : argsFit about1.vm theMethod args0 = true := by decide +kernel
set_option maxRecDepth 65536 in
theorem w_heap : heapFits about1 = true := by decide +kernel
set_option maxRecDepth 65536 in
theorem w_runnable : about1.curStatus? = some .runnable := by decide +kernel
set_option maxRecDepth 65536 in
theorem w_alone : about1.alone = true := by decide +kernel
set_option maxRecDepth 65536 in
theorem w_named : about1.methodNamed? x = some theMethod := by decide +kernel
set_option maxRecDepth 65536 in
theorem w_hears : about1.hears theMethod below0 = true := by decide +kernel
set_option maxRecDepth 65536 in
theorem w_ripe : about1.ripe theMethod args0 below0 = true := by decide +kernel
theorem w_running : about1.status = .running := rfl
set_option maxRecDepth 65536 in
theorem w_room : about1.hasRoom e0.platform room_1 = true :=
  launch0.hasRoom_least _ room_1 (by decide +kernel) (by decide +kernel) (by decide +kernel) (by decide +kernel) (by decide +kernel) (by decide +kernel)
theorem allAtoms_all (ts : List Jvm.Cond) (a : Array Jvm.Value) (st : Jvm.State) : (allAtoms ts).before a st = ts.all (fun c => c.before a st) := by
  induction ts with
  | nil => rfl
  | cons c t ih =>
    show (Jvm.Cond.and c (allAtoms t)).before a st = _
    rw [Jvm.Cond.before_and, ih, List.all_cons]
def words1 : List Jvm.Cond := Jvm.Cond.code x code maxLocals ret :: tables_1
/-- a 'code' word, met by the world's own term for the bytes: nothing is compared byte by byte -/
theorem code_word {y : MethodName} {bytes : ByteArray} {mx : Nat} {rt : Option FieldType} {a : Array Value} {s : State} {m : MethodId} {meth : Method} {c : Code} (h1 : s.methodNamed? y = some m) (h2 : s.vm.method? m = some meth) (h3 : meth.code = some c) (h4 : c.code = bytes)
    (h5 : (c.maxLocals == mx && c.exceptionTable.isEmpty && decide (c.maxStack ≤ mostOperands) && decide (meth.sig.returnType = rt) && !meth.locks && decide (parseMethodDescriptor y.desc = some meth.sig)) = true) : (Jvm.Cond.code y bytes mx rt).before a s = true := by
  simp only [Bool.and_eq_true, beq_iff_eq, Bool.not_eq_true', decide_eq_true_eq] at h5
  obtain ⟨⟨⟨⟨⟨g1, g2⟩, g3⟩, g4⟩, g5⟩, g6⟩ := h5
  simp [Cond.before, Cond.holds, Cond.value, h1, h2, h3, h4, g1, g2, g3, g4, g5, g6]
def isCode : Jvm.Cond → Bool
  | .code _ _ _ _ => true
  | _ => false
theorem all_split {L : List Jvm.Cond} {P : Jvm.Cond → Bool} (h1 : L.all (fun c => isCode c || P c) = true) (h2 : ∀ c ∈ L.filter isCode, P c = true) : L.all P = true := by
  refine List.all_eq_true.mpr fun c hc => ?_
  have h := List.all_eq_true.mp h1 c hc
  rcases Bool.eq_false_or_eq_true (isCode c) with hi | hi
  · exact h2 c (List.mem_filter.mpr ⟨hc, hi⟩)
  · simpa [hi] using h
set_option maxRecDepth 65536 in
theorem w_c0 : (Jvm.Cond.code x code maxLocals ret).before args0 about1 = true := code_word (m := ⟨1, 2⟩) (meth := k1m2) (c := k1c2) (by decide +kernel) rfl rfl rfl (by decide +kernel)
set_option maxRecDepth 65536 in
theorem w_c1 : (Jvm.Cond.code ({ cls := "java/lang/Math", name := "min", desc := "(II)I" } : Jvm.MethodName) jdk_29_method_69_code (2 : Nat) (Option.some Jvm.ClassFile.FieldType.int)).before args0 about1 = true := code_word (m := ⟨2, 2⟩) (meth := k2m2) (c := k2c2) (by decide +kernel) rfl rfl rfl (by decide +kernel)
set_option maxRecDepth 65536 in
theorem w_c2 : (Jvm.Cond.code ({ cls := "java/lang/Math", name := "max", desc := "(II)I" } : Jvm.MethodName) jdk_29_method_65_code (2 : Nat) (Option.some Jvm.ClassFile.FieldType.int)).before args0 about1 = true := code_word (m := ⟨2, 1⟩) (meth := k2m1) (c := k2c1) (by decide +kernel) rfl rfl rfl (by decide +kernel)
set_option maxRecDepth 65536 in
theorem w_c3 : (Jvm.Cond.code ({ cls := "com/example/stampwise/stampwise/history/CoverCounts", name := "<init>", desc := "(I)V" } : Jvm.MethodName) prog_105_method_1_code (2 : Nat) (Option.none : Option Jvm.ClassFile.FieldType)).before args0 about1 = true := code_word (m := ⟨3, 0⟩) (meth := k3m0) (c := k3c0) (by decide +kernel) rfl rfl rfl (by decide +kernel)
set_option maxRecDepth 65536 in
theorem w_c4 : (Jvm.Cond.code ({ cls := "java/lang/Object", name := "<init>", desc := "()V" } : Jvm.MethodName) object_method_1_code (1 : Nat) (Option.none : Option Jvm.ClassFile.FieldType)).before args0 about1 = true := code_word (m := ⟨0, 0⟩) (meth := k0m0) (c := k0c0) (by decide +kernel) rfl rfl rfl (by decide +kernel)
set_option maxRecDepth 65536 in
theorem w_c5 : (Jvm.Cond.code ({ cls := "com/example/stampwise/stampwise/history/CoverCounts", name := "add", desc := "(III)V" } : Jvm.MethodName) prog_105_method_2_code (4 : Nat) (Option.none : Option Jvm.ClassFile.FieldType)).before args0 about1 = true := code_word (m := ⟨3, 1⟩) (meth := k3m1) (c := k3c1) (by decide +kernel) rfl rfl rfl (by decide +kernel)
set_option maxRecDepth 65536 in
theorem w_c6 : (Jvm.Cond.code ({ cls := "com/example/stampwise/stampwise/history/CoverCounts", name := "addFrom", desc := "(II)V" } : Jvm.MethodName) prog_105_method_4_code (4 : Nat) (Option.none : Option Jvm.ClassFile.FieldType)).before args0 about1 = true := code_word (m := ⟨3, 3⟩) (meth := k3m3) (c := k3c3) (by decide +kernel) rfl rfl rfl (by decide +kernel)
set_option maxRecDepth 65536 in
theorem w_c7 : (Jvm.Cond.code ({ cls := "com/example/stampwise/stampwise/history/CoverCountsCountPinLaw", name := "part", desc := "(IIII)I" } : Jvm.MethodName) method_2_code (4 : Nat) (Option.some Jvm.ClassFile.FieldType.int)).before args0 about1 = true := code_word (m := ⟨1, 1⟩) (meth := k1m1) (c := k1c1) (by decide +kernel) rfl rfl rfl (by decide +kernel)
set_option maxRecDepth 65536 in
theorem w_c8 : (Jvm.Cond.code ({ cls := "com/example/stampwise/stampwise/history/CoverCounts", name := "count", desc := "(I)I" } : Jvm.MethodName) prog_105_method_3_code (4 : Nat) (Option.some Jvm.ClassFile.FieldType.int)).before args0 about1 = true := code_word (m := ⟨3, 2⟩) (meth := k3m2) (c := k3c2) (by decide +kernel) rfl rfl rfl (by decide +kernel)
def codes1 : List Jvm.Cond := [Jvm.Cond.code x code maxLocals ret, Jvm.Cond.code ({ cls := "java/lang/Math", name := "min", desc := "(II)I" } : Jvm.MethodName) jdk_29_method_69_code (2 : Nat) (Option.some Jvm.ClassFile.FieldType.int), Jvm.Cond.code ({ cls := "java/lang/Math", name := "max", desc := "(II)I" } : Jvm.MethodName) jdk_29_method_65_code (2 : Nat) (Option.some Jvm.ClassFile.FieldType.int), Jvm.Cond.code ({ cls := "com/example/stampwise/stampwise/history/CoverCounts", name := "<init>", desc := "(I)V" } : Jvm.MethodName) prog_105_method_1_code (2 : Nat) (Option.none : Option Jvm.ClassFile.FieldType), Jvm.Cond.code ({ cls := "java/lang/Object", name := "<init>", desc := "()V" } : Jvm.MethodName) object_method_1_code (1 : Nat) (Option.none : Option Jvm.ClassFile.FieldType), Jvm.Cond.code ({ cls := "com/example/stampwise/stampwise/history/CoverCounts", name := "add", desc := "(III)V" } : Jvm.MethodName) prog_105_method_2_code (4 : Nat) (Option.none : Option Jvm.ClassFile.FieldType), Jvm.Cond.code ({ cls := "com/example/stampwise/stampwise/history/CoverCounts", name := "addFrom", desc := "(II)V" } : Jvm.MethodName) prog_105_method_4_code (4 : Nat) (Option.none : Option Jvm.ClassFile.FieldType), Jvm.Cond.code ({ cls := "com/example/stampwise/stampwise/history/CoverCountsCountPinLaw", name := "part", desc := "(IIII)I" } : Jvm.MethodName) method_2_code (4 : Nat) (Option.some Jvm.ClassFile.FieldType.int), Jvm.Cond.code ({ cls := "com/example/stampwise/stampwise/history/CoverCounts", name := "count", desc := "(I)I" } : Jvm.MethodName) prog_105_method_3_code (4 : Nat) (Option.some Jvm.ClassFile.FieldType.int)]
set_option maxRecDepth 65536 in
theorem codes_eq : words1.filter isCode = codes1 := rfl
theorem w_codes : ∀ c ∈ words1.filter isCode, c.before args0 about1 = true := by
  rw [codes_eq]
  intro c hc
  simp only [codes1, List.mem_cons, List.not_mem_nil, or_false] at hc
  rcases hc with rfl | rfl | rfl | rfl | rfl | rfl | rfl | rfl | rfl
  · exact w_c0
  · exact w_c1
  · exact w_c2
  · exact w_c3
  · exact w_c4
  · exact w_c5
  · exact w_c6
  · exact w_c7
  · exact w_c8
set_option maxRecDepth 65536 in
theorem w_t1 : (words1.take 24).all (fun c => isCode c || c.before args0 about1) = true := by decide +kernel
set_option maxRecDepth 65536 in
theorem w_t2 : (words1.drop 24).all (fun c => isCode c || c.before args0 about1) = true := by decide +kernel
theorem w_tables : (allAtoms (Jvm.Cond.code x code maxLocals ret :: tables_1)).before args0 about1 = true := by
  rw [allAtoms_all]
  show words1.all (fun c => c.before args0 about1) = true
  refine all_split ?_ w_codes
  rw [← List.take_append_drop 24 words1, List.all_append, w_t1, w_t2]
  rfl
set_option maxRecDepth 65536 in
theorem w_case : (Jvm.Cond.and given_1 narrow_1).before args0 about1 = true := by decide +kernel
theorem w_applies : (headSpec (Jvm.Cond.code x code maxLocals ret :: tables_1) room_1).applies x e0.platform about1 = true :=
  (Spec.applies_iff w_frames).mpr ⟨w_running, w_runnable, w_alone, w_named, w_hears, w_ripe, w_room, w_tables⟩
theorem atStart : AtStart classFile x code maxLocals ret World_1 tables_1 room_1 Calls_1 rest_1 Pre_1 launch0 p0 e0 about1 theMethod args0 below0 :=
  ⟨lists_1, trivial, launch0.admits_env _ _ _, launch0.least_env, fairChoices_fair.cas, fairChoices_fair.clock, w_frames, w_args, w_heap, w_applies, trivial, trivial, w_case⟩
end start1
theorem witness_1 : WitnessClaimed_1 := ⟨start1.p0, start1.e0, start1.about1, start1.theMethod, start1.args0, start1.below0, start1.atStart⟩
end Jvm.Pilot.@@N@@

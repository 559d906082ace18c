import JvmDerived
import JvmDerived.Pilot.@@N@@Statement
import JvmDerived.Pilot.@@N@@Code
set_option linter.unusedVariables false
set_option linter.unusedSimpArgs false
set_option maxRecDepth 65536
set_option maxHeartbeats 2000000

namespace Jvm.OwnWP
open Sem ClassFile Op Lib Jvm.Stand Jvm.Free Jvm.LawKit Jvm.RoadKit
/-- Java's shifts and its comparison of longs -/
def ushr (x y : Int32) : Int32 := (x.toUInt32 >>> (y &&& 31).toUInt32).toInt32
def ushrL (x : Int64) (y : Int32) : Int64 := (x.toUInt64 >>> (y &&& 0x3f).toInt64.toUInt64).toInt64
def cmpL (x y : Int64) : Int32 := if x > y then 1 else if x = y then 0 else -1
/-! A body: its class, its name, bytes, max_locals, what it returns, its room. -/
abbrev Bod : Type := String × String × ByteArray × Nat × Option FieldType × Room
abbrev Bod.own (B : Bod) : String := B.1
abbrev Bod.mname (B : Bod) : String := B.2.1
abbrev Bod.bytes (B : Bod) : ByteArray := B.2.2.1
abbrev Bod.maxL (B : Bod) : Nat := B.2.2.2.1
abbrev Bod.ret (B : Bod) : Option FieldType := B.2.2.2.2.1
abbrev Bod.room (B : Bod) : Room := B.2.2.2.2.2
def Ctx (p : Program) (s : State) (m : MethodId) (meth : Method) (c : Code) (Z : State) (B : Bod) : Prop :=
  p.tables.exec = Jvm.exec ∧ Z.Warmed39 s.vm ∧ s.vm.findClass B.own = some m.cls ∧ c.code = B.bytes ∧ c.maxLocals = B.maxL ∧ meth.sig.returnType = B.ret ∧ meth.locks = false ∧ meth.name = B.mname
/-- From pc, with these locals and this stack, over the heap h, the body returns, and Q says of what it returns and of the heap. -/
def WP (l : Launch) (B : Bod) (Z : State) (n0 : Nat) (Q : Option Value → Heap → Prop) (h : Heap) (cs sl pc : Nat) (ls : Array Slot) (st : List Value) : Prop :=
  ∀ (p : Program) (e : Env) (s : State) (m : MethodId) (args : Array Value) (below : List Frame) (meth : Method) (c : Code) (T : State) (L : List Loc),
    Ctx p s m meth c Z B → Stand p l e B.room s m args below meth c T L cs sl → T.heap = h → Fr n0 L → n0 ≤ h.size →
    ∃ (U : State) (v : Option Value) (L' : List Loc), Steps p.tables e below (T.setTop (mkF m pc ls st)) U ∧ U.status = .running ∧ Ended U below (.returned v) ∧ Q v U.heap ∧ Fr n0 L' ∧ n0 ≤ U.heap.size ∧ FrameEnd s (.returned v) U L' B.room.cells B.room.slots
/-- The contract of a body: called with the arguments as over the heap h0. -/
def OMet (l : Launch) (y : MethodName) (B : Bod) (Z : State) (n0 : Nat) (as : Array Value) (h0 : Heap) (Q : Option Value → Heap → Prop) : Prop :=
  n0 ≤ h0.size → ∀ ws, MetFree l y (head1 (Cond.code y B.bytes B.maxL B.ret :: ws) B.room) (fun a U => a = as ∧ Z.Warmed39 U.vm ∧ U.heap = h0) (fun _ _ _ _ _ => True) (fun _ U o U' => ∃ v L, o = .returned v ∧ (Q v U'.heap ∧ Fr n0 L ∧ n0 ≤ U'.heap.size) ∧ FrameEnd U o U' L B.room.cells B.room.slots)
section W
variable {l : Launch} {B : Bod} {Z : State} {n0 : Nat} {Q : Option Value → Heap → Prop} {h : Heap} {cs sl pc pc' : Nat} {ls ls' : Array Slot} {st rest : List Value} {a0 : Array Value}
theorem OMet.of_wp {y : MethodName} {as : Array Value} {ls0 : Array Slot} (hpl : plainFor y = true) (h1 : y.cls = B.own) (h2 : y.name = B.mname) (hef : ∀ m, entryFrame m as B.maxL = mkF m 0 ls0 []) (H : WP l B Z n0 Q h 0 0 0 ls0 []) : OMet l y B Z n0 as h Q := by
  intro hn ws
  refine MetFree.of_bodySF hpl hisR ?_
  intro p e s m args below meth c s₁ Bd hml0 hP hK
  obtain ⟨rfl, hZ, hh⟩ := hP
  have hnm := (name_of_methodNamed Bd.named Bd.method).1
  have hown : s.vm.findClass y.cls = some m.cls := findClass_of_methodNamed Bd.named
  have X0 := Stand.of_body Bd
  have e0 : s₁.heap = h := by rw [← hh, Bd.state]; rfl
  obtain ⟨U, v, L', a1, a2, a3, a4, a5, a6, a7⟩ := H p e s m args below meth c s₁ [] ⟨Bd.exec, hZ, h1 ▸ hown, Bd.bytes, hml0, Bd.returns, Bd.notSynchronized, hnm.trans h2⟩ X0 e0 (Fr.nil n0) hn
  exact ⟨U, _, castTop (hef m) a1, a2, a3, v, L', rfl, ⟨a4, a5, a6⟩, a7⟩
theorem WP.mono {Q' : Option Value → Heap → Prop} (H : WP l B Z n0 Q' h cs sl pc ls st) (hq : ∀ v h', Q' v h' → Q v h') : WP l B Z n0 Q h cs sl pc ls st := by
  intro p e s m args below meth c T L C X hT N hn
  obtain ⟨U, v, L', a1, a2, a3, a4, r⟩ := H p e s m args below meth c T L C X hT N hn
  exact ⟨U, v, L', a1, a2, a3, hq _ _ a4, r⟩
/-- a plain step: the state stays, the frame moves -/
theorem WP.step {pc' : Nat} {ls' : Array Slot} {st' : List Value}
    (S : ∀ (p : Program) (e : Env) (s : State) (m : MethodId) (args : Array Value) (below : List Frame) (meth : Method) (c : Code) (T : State) (L : List Loc), Ctx p s m meth c Z B → Stand p l e B.room s m args below meth c T L cs sl → T.heap = h → ∀ target, Steps p.tables e below (T.setTop (mkF m pc' ls' st')) target → Steps p.tables e below (T.setTop (mkF m pc ls st)) target)
    (H : WP l B Z n0 Q h cs sl pc' ls' st') : WP l B Z n0 Q h cs sl pc ls st := by
  intro p e s m args below meth c T L C X hT N hn
  obtain ⟨U, v, L', a1, r⟩ := H p e s m args below meth c T L C X hT N hn
  exact ⟨U, v, L', S p e s m args below meth c T L C X hT _ a1, r⟩
/-- a step to another state -/
theorem WP.stepT {pc' cs' sl' : Nat} {ls' : Array Slot} {st' : List Value} {P : Heap → Prop}
    (S : ∀ (p : Program) (e : Env) (s : State) (m : MethodId) (args : Array Value) (below : List Frame) (meth : Method) (c : Code) (T : State) (L : List Loc), Ctx p s m meth c Z B → Stand p l e B.room s m args below meth c T L cs sl → T.heap = h → Fr n0 L → n0 ≤ h.size →
      ∃ (T' : State) (h' : Heap) (L' : List Loc), Stand p l e B.room s m args below meth c T' L' cs' sl' ∧ T'.heap = h' ∧ Fr n0 L' ∧ n0 ≤ h'.size ∧ P h' ∧ ∀ target, Steps p.tables e below (T'.setTop (mkF m pc' ls' st')) target → Steps p.tables e below (T.setTop (mkF m pc ls st)) target)
    (H : ∀ h', P h' → WP l B Z n0 Q h' cs' sl' pc' ls' st') : WP l B Z n0 Q h cs sl pc ls st := by
  intro p e s m args below meth c T L C X hT N hn
  obtain ⟨T', h', L1, X', e', N', n', hp, st⟩ := S p e s m args below meth c T L C X hT N hn
  obtain ⟨U, v, L', a1, r⟩ := H h' hp p e s m args below meth c T' L1 C X' e' N' n'
  exact ⟨U, v, L', st _ a1, r⟩
/-! loads, stores, constants -/
theorem WP.iloadN {k : Fin 4} {v : Int32} (hd : decode B.bytes pc = .ok (.iload_n k, 1)) (hl : ls[k.val]? = some (.val (.int v))) (hp : pc + 1 = pc') (H : WP l B Z n0 Q h cs sl pc' ls (.int v :: st)) : WP l B Z n0 Q h cs sl pc ls st := by
  subst hp; exact WP.step (fun p e s m args below meth c T L C X hT target k => XS.iloadN X.here C.1 rfl (hb C.2.2.2.1 hd) hl k) H
theorem WP.iload {k : Nat} {v : Int32} (hd : decode B.bytes pc = .ok (.iload k, 2)) (hl : ls[k]? = some (.val (.int v))) (hp : pc + 2 = pc') (H : WP l B Z n0 Q h cs sl pc' ls (.int v :: st)) : WP l B Z n0 Q h cs sl pc ls st := by
  subst hp; exact WP.step (fun p e s m args below meth c T L C X hT target k => XS.iload X.here C.1 rfl (hb C.2.2.2.1 hd) hl k) H
theorem WP.lloadN {k : Fin 4} {v : Int64} (hd : decode B.bytes pc = .ok (.lload_n k, 1)) (hl : ls[k.val]? = some (.val (.long v))) (hp : pc + 1 = pc') (H : WP l B Z n0 Q h cs sl pc' ls (.long v :: st)) : WP l B Z n0 Q h cs sl pc ls st := by
  subst hp; exact WP.step (fun p e s m args below meth c T L C X hT target k => XS.lloadN X.here C.1 rfl (hb C.2.2.2.1 hd) hl k) H
theorem WP.lload {k : Nat} {v : Int64} (hd : decode B.bytes pc = .ok (.lload k, 2)) (hl : ls[k]? = some (.val (.long v))) (hp : pc + 2 = pc') (H : WP l B Z n0 Q h cs sl pc' ls (.long v :: st)) : WP l B Z n0 Q h cs sl pc ls st := by
  subst hp; exact WP.step (fun p e s m args below meth c T L C X hT target k => XS.lload X.here C.1 rfl (hb C.2.2.2.1 hd) hl k) H
theorem WP.aloadN {k : Fin 4} {v : Value} (hd : decode B.bytes pc = .ok (.aload_n k, 1)) (hl : ls[k.val]? = some (.val v)) (hv : v.isRef = true) (hp : pc + 1 = pc') (H : WP l B Z n0 Q h cs sl pc' ls (v :: st)) : WP l B Z n0 Q h cs sl pc ls st := by
  subst hp; exact WP.step (fun p e s m args below meth c T L C X hT target k => XS.aloadN X.here C.1 rfl (hb C.2.2.2.1 hd) hl hv k) H
theorem WP.aload {k : Nat} {v : Value} (hd : decode B.bytes pc = .ok (.aload k, 2)) (hl : ls[k]? = some (.val v)) (hv : v.isRef = true) (hp : pc + 2 = pc') (H : WP l B Z n0 Q h cs sl pc' ls (v :: st)) : WP l B Z n0 Q h cs sl pc ls st := by
  subst hp; exact WP.step (fun p e s m args below meth c T L C X hT target k => XS.aload X.here C.1 rfl (hb C.2.2.2.1 hd) hl hv k) H
theorem WP.istoreN {k : Fin 4} {x : Int32} (hd : decode B.bytes pc = .ok (.istore_n k, 1)) (hp : pc + 1 = pc') (hl : storeLocals ls k.val (.int x) = some ls') (H : WP l B Z n0 Q h cs sl pc' ls' st) : WP l B Z n0 Q h cs sl pc ls (.int x :: st) := by
  subst hp; exact WP.step (fun p e s m args below meth c T L C X hT target k => XS.istoreN X.here C.1 rfl (hb C.2.2.2.1 hd) rfl hl k) H
theorem WP.istore {k : Nat} {x : Int32} (hd : decode B.bytes pc = .ok (.istore k, 2)) (hp : pc + 2 = pc') (hl : storeLocals ls k (.int x) = some ls') (H : WP l B Z n0 Q h cs sl pc' ls' st) : WP l B Z n0 Q h cs sl pc ls (.int x :: st) := by
  subst hp; exact WP.step (fun p e s m args below meth c T L C X hT target k => XS.istore X.here C.1 rfl (hb C.2.2.2.1 hd) rfl hl k) H
theorem WP.lstoreN {k : Fin 4} {x : Int64} (hd : decode B.bytes pc = .ok (.lstore_n k, 1)) (hp : pc + 1 = pc') (hl : storeLocals ls k.val (.long x) = some ls') (H : WP l B Z n0 Q h cs sl pc' ls' st) : WP l B Z n0 Q h cs sl pc ls (.long x :: st) := by
  subst hp; exact WP.step (fun p e s m args below meth c T L C X hT target k => XS.lstoreN X.here C.1 rfl (hb C.2.2.2.1 hd) rfl hl k) H
theorem WP.lstore {k : Nat} {x : Int64} (hd : decode B.bytes pc = .ok (.lstore k, 2)) (hp : pc + 2 = pc') (hl : storeLocals ls k (.long x) = some ls') (H : WP l B Z n0 Q h cs sl pc' ls' st) : WP l B Z n0 Q h cs sl pc ls (.long x :: st) := by
  subst hp; exact WP.step (fun p e s m args below meth c T L C X hT target k => XS.lstore X.here C.1 rfl (hb C.2.2.2.1 hd) rfl hl k) H
theorem WP.astoreN {k : Fin 4} {x : Value} (hd : decode B.bytes pc = .ok (.astore_n k, 1)) (hp : pc + 1 = pc') (hv : x.isRef = true) (hl : storeLocals ls k.val x = some ls') (H : WP l B Z n0 Q h cs sl pc' ls' st) : WP l B Z n0 Q h cs sl pc ls (x :: st) := by
  subst hp; exact WP.step (fun p e s m args below meth c T L C X hT target k => XS.astoreN X.here C.1 rfl (hb C.2.2.2.1 hd) rfl hv hl k) H
theorem WP.astore {k : Nat} {x : Value} (hd : decode B.bytes pc = .ok (.astore k, 2)) (hp : pc + 2 = pc') (hv : x.isRef = true) (hl : storeLocals ls k x = some ls') (H : WP l B Z n0 Q h cs sl pc' ls' st) : WP l B Z n0 Q h cs sl pc ls (x :: st) := by
  subst hp; exact WP.step (fun p e s m args below meth c T L C X hT target k => XS.astore X.here C.1 rfl (hb C.2.2.2.1 hd) rfl hv hl k) H
theorem WP.iconst {i : Int} {z : Int32} (hd : decode B.bytes pc = .ok (.iconst i, 1)) (hz : Int32.ofInt i = z) (hp : pc + 1 = pc') (H : WP l B Z n0 Q h cs sl pc' ls (.int z :: st)) : WP l B Z n0 Q h cs sl pc ls st := by
  subst hp hz; exact WP.step (fun p e s m args below meth c T L C X hT target k => XS.iconst X.here C.1 rfl (hb C.2.2.2.1 hd) k) H
theorem WP.bipush {i : Int} {z : Int32} (hd : decode B.bytes pc = .ok (.bipush i, 2)) (hz : (Int8.ofInt i).toInt32 = z) (hp : pc + 2 = pc') (H : WP l B Z n0 Q h cs sl pc' ls (.int z :: st)) : WP l B Z n0 Q h cs sl pc ls st := by
  subst hp hz; exact WP.step (fun p e s m args below meth c T L C X hT target k => XS.bipush X.here C.1 rfl (hb C.2.2.2.1 hd) k) H
theorem WP.sipush {i : Int} {z : Int32} (hd : decode B.bytes pc = .ok (.sipush i, 3)) (hz : (Int16.ofInt i).toInt32 = z) (hp : pc + 3 = pc') (H : WP l B Z n0 Q h cs sl pc' ls (.int z :: st)) : WP l B Z n0 Q h cs sl pc ls st := by
  subst hp hz; exact WP.step (fun p e s m args below meth c T L C X hT target k => XS.sipush X.here C.1 rfl (hb C.2.2.2.1 hd) k) H
theorem WP.lconst0 (hd : decode B.bytes pc = .ok (.lconst 0, 1)) (hp : pc + 1 = pc') (H : WP l B Z n0 Q h cs sl pc' ls (.long 0 :: st)) : WP l B Z n0 Q h cs sl pc ls st := by
  subst hp; exact WP.step (fun p e s m args below meth c T L C X hT target k => XS.lconst X.here C.1 rfl (hb C.2.2.2.1 hd) k) H
theorem WP.lconst1 (hd : decode B.bytes pc = .ok (.lconst 1, 1)) (hp : pc + 1 = pc') (H : WP l B Z n0 Q h cs sl pc' ls (.long 1 :: st)) : WP l B Z n0 Q h cs sl pc ls st := by
  subst hp; exact WP.step (fun p e s m args below meth c T L C X hT target k => XS.lconst X.here C.1 rfl (hb C.2.2.2.1 hd) k) H
theorem WP.aconstNull (hd : decode B.bytes pc = .ok (.aconst_null, 1)) (hp : pc + 1 = pc') (H : WP l B Z n0 Q h cs sl pc' ls (.null :: st)) : WP l B Z n0 Q h cs sl pc ls st := by
  subst hp; exact WP.step (fun p e s m args below meth c T L C X hT target k => XS.aconstNull X.here C.1 rfl (hb C.2.2.2.1 hd) k) H
theorem WP.ldcI {i : Nat} {z : Int32} (hd : decode B.bytes pc = .ok (.ldc i, 2)) (w : (Cond.constant B.own i z).before a0 Z = true) (hp : pc + 2 = pc') (H : WP l B Z n0 Q h cs sl pc' ls (.int z :: st)) : WP l B Z n0 Q h cs sl pc ls st := by
  subst hp; exact WP.step (fun p e s m args below meth c T L C X hT target k => X.ldcInt C.1 C.2.2.1 (mvT C.2.1 w) (g := mkF m pc ls st) rfl (hb C.2.2.2.1 hd) _ k) H
theorem WP.ldcwI {i : Nat} {z : Int32} (hd : decode B.bytes pc = .ok (.ldc_w i, 3)) (w : (Cond.constant B.own i z).before a0 Z = true) (hp : pc + 3 = pc') (H : WP l B Z n0 Q h cs sl pc' ls (.int z :: st)) : WP l B Z n0 Q h cs sl pc ls st := by
  subst hp; exact WP.step (fun p e s m args below meth c T L C X hT target k => X.ldcwInt C.1 C.2.2.1 (mvT C.2.1 w) (g := mkF m pc ls st) rfl (hb C.2.2.2.1 hd) _ k) H
theorem WP.ldc2J {i : Nat} {z : Int64} (hd : decode B.bytes pc = .ok (.ldc2_w i, 3)) (w : (Cond.constantLong B.own i z).before a0 Z = true) (hp : pc + 3 = pc') (H : WP l B Z n0 Q h cs sl pc' ls (.long z :: st)) : WP l B Z n0 Q h cs sl pc ls st := by
  subst hp; exact WP.step (fun p e s m args below meth c T L C X hT target k => X.ldc2Long C.1 C.2.2.1 (mvT C.2.1 w) (g := mkF m pc ls st) rfl (hb C.2.2.2.1 hd) _ k) H
theorem WP.iinc {k : Nat} {cst : Int} {x y : Int32} (hd : decode B.bytes pc = .ok (.iinc k cst, 3)) (hp : pc + 3 = pc') (hl : ls[k]? = some (.val (.int x))) (hy : x + Int32.ofInt cst = y) (hl' : storeLocals ls k (.int y) = some ls') (H : WP l B Z n0 Q h cs sl pc' ls' st) : WP l B Z n0 Q h cs sl pc ls st := by
  subst hp hy; exact WP.step (fun p e s m args below meth c T L C X hT target k => XS.iinc X.here C.1 rfl (hb C.2.2.2.1 hd) hl hl' k) H
/-! the stack -/
theorem WP.dup {x : Value} (hd : decode B.bytes pc = .ok (.dup, 1)) (hc : x.category = 1) (hp : pc + 1 = pc') (H : WP l B Z n0 Q h cs sl pc' ls (x :: x :: st)) : WP l B Z n0 Q h cs sl pc ls (x :: st) := by
  subst hp; exact WP.step (fun p e s m args below meth c T L C X hT target k => XS.dup X.here C.1 rfl (hb C.2.2.2.1 hd) rfl hc k) H
theorem WP.pop {x : Value} (hd : decode B.bytes pc = .ok (.pop, 1)) (hc : x.category = 1) (hp : pc + 1 = pc') (H : WP l B Z n0 Q h cs sl pc' ls st) : WP l B Z n0 Q h cs sl pc ls (x :: st) := by
  subst hp; exact WP.step (fun p e s m args below meth c T L C X hT target k => XS.pop X.here C.1 rfl (hb C.2.2.2.1 hd) rfl hc k) H
theorem WP.dupX1 {x y : Value} (hd : decode B.bytes pc = .ok (.dup_x1, 1)) (hc : x.category = 1) (hc' : y.category = 1) (hp : pc + 1 = pc') (H : WP l B Z n0 Q h cs sl pc' ls (x :: y :: x :: st)) : WP l B Z n0 Q h cs sl pc ls (x :: y :: st) := by
  subst hp; exact WP.step (fun p e s m args below meth c T L C X hT target k => XS.dupX1 X.here C.1 rfl (hb C.2.2.2.1 hd) rfl hc hc' k) H
theorem WP.dup2 {x y : Value} (hd : decode B.bytes pc = .ok (.dup2, 1)) (hc : x.category = 1) (hc' : y.category = 1) (hp : pc + 1 = pc') (H : WP l B Z n0 Q h cs sl pc' ls (x :: y :: x :: y :: st)) : WP l B Z n0 Q h cs sl pc ls (x :: y :: st) := by
  subst hp; exact WP.step (fun p e s m args below meth c T L C X hT target k => Jvm.Free.XT.dup2 X.here C.1 rfl (hb C.2.2.2.1 hd) rfl hc hc' k) H
/-! arithmetic -/
theorem WP.iadd {x : Int32} {y : Int32} (hd : decode B.bytes pc = .ok (.iadd, 1)) (hp : pc + 1 = pc') (H : WP l B Z n0 Q h cs sl pc' ls (.int (x + y) :: st)) : WP l B Z n0 Q h cs sl pc ls (.int y :: .int x :: st) := by
  subst hp; exact WP.step (fun p e s m args below meth c T L C X hT target k => XS.iadd X.here C.1 rfl (hb C.2.2.2.1 hd) rfl k) H
theorem WP.isub {x : Int32} {y : Int32} (hd : decode B.bytes pc = .ok (.isub, 1)) (hp : pc + 1 = pc') (H : WP l B Z n0 Q h cs sl pc' ls (.int (x - y) :: st)) : WP l B Z n0 Q h cs sl pc ls (.int y :: .int x :: st) := by
  subst hp; exact WP.step (fun p e s m args below meth c T L C X hT target k => XS.isub X.here C.1 rfl (hb C.2.2.2.1 hd) rfl k) H
theorem WP.imul {x : Int32} {y : Int32} (hd : decode B.bytes pc = .ok (.imul, 1)) (hp : pc + 1 = pc') (H : WP l B Z n0 Q h cs sl pc' ls (.int (x * y) :: st)) : WP l B Z n0 Q h cs sl pc ls (.int y :: .int x :: st) := by
  subst hp; exact WP.step (fun p e s m args below meth c T L C X hT target k => XS.imul X.here C.1 rfl (hb C.2.2.2.1 hd) rfl k) H
theorem WP.iand {x : Int32} {y : Int32} (hd : decode B.bytes pc = .ok (.iand, 1)) (hp : pc + 1 = pc') (H : WP l B Z n0 Q h cs sl pc' ls (.int (x &&& y) :: st)) : WP l B Z n0 Q h cs sl pc ls (.int y :: .int x :: st) := by
  subst hp; exact WP.step (fun p e s m args below meth c T L C X hT target k => XS.iand X.here C.1 rfl (hb C.2.2.2.1 hd) rfl k) H
theorem WP.ior {x : Int32} {y : Int32} (hd : decode B.bytes pc = .ok (.ior, 1)) (hp : pc + 1 = pc') (H : WP l B Z n0 Q h cs sl pc' ls (.int (x ||| y) :: st)) : WP l B Z n0 Q h cs sl pc ls (.int y :: .int x :: st) := by
  subst hp; exact WP.step (fun p e s m args below meth c T L C X hT target k => XS.ior X.here C.1 rfl (hb C.2.2.2.1 hd) rfl k) H
theorem WP.ixor {x : Int32} {y : Int32} (hd : decode B.bytes pc = .ok (.ixor, 1)) (hp : pc + 1 = pc') (H : WP l B Z n0 Q h cs sl pc' ls (.int (x ^^^ y) :: st)) : WP l B Z n0 Q h cs sl pc ls (.int y :: .int x :: st) := by
  subst hp; exact WP.step (fun p e s m args below meth c T L C X hT target k => XS.ixor X.here C.1 rfl (hb C.2.2.2.1 hd) rfl k) H
theorem WP.ladd {x : Int64} {y : Int64} (hd : decode B.bytes pc = .ok (.ladd, 1)) (hp : pc + 1 = pc') (H : WP l B Z n0 Q h cs sl pc' ls (.long (x + y) :: st)) : WP l B Z n0 Q h cs sl pc ls (.long y :: .long x :: st) := by
  subst hp; exact WP.step (fun p e s m args below meth c T L C X hT target k => XS.ladd X.here C.1 rfl (hb C.2.2.2.1 hd) rfl k) H
theorem WP.lsub {x : Int64} {y : Int64} (hd : decode B.bytes pc = .ok (.lsub, 1)) (hp : pc + 1 = pc') (H : WP l B Z n0 Q h cs sl pc' ls (.long (x - y) :: st)) : WP l B Z n0 Q h cs sl pc ls (.long y :: .long x :: st) := by
  subst hp; exact WP.step (fun p e s m args below meth c T L C X hT target k => XS.lsub X.here C.1 rfl (hb C.2.2.2.1 hd) rfl k) H
theorem WP.lmul {x : Int64} {y : Int64} (hd : decode B.bytes pc = .ok (.lmul, 1)) (hp : pc + 1 = pc') (H : WP l B Z n0 Q h cs sl pc' ls (.long (x * y) :: st)) : WP l B Z n0 Q h cs sl pc ls (.long y :: .long x :: st) := by
  subst hp; exact WP.step (fun p e s m args below meth c T L C X hT target k => XS.lmul X.here C.1 rfl (hb C.2.2.2.1 hd) rfl k) H
theorem WP.land {x : Int64} {y : Int64} (hd : decode B.bytes pc = .ok (.land, 1)) (hp : pc + 1 = pc') (H : WP l B Z n0 Q h cs sl pc' ls (.long (x &&& y) :: st)) : WP l B Z n0 Q h cs sl pc ls (.long y :: .long x :: st) := by
  subst hp; exact WP.step (fun p e s m args below meth c T L C X hT target k => XS.land X.here C.1 rfl (hb C.2.2.2.1 hd) rfl k) H
theorem WP.lor {x : Int64} {y : Int64} (hd : decode B.bytes pc = .ok (.lor, 1)) (hp : pc + 1 = pc') (H : WP l B Z n0 Q h cs sl pc' ls (.long (x ||| y) :: st)) : WP l B Z n0 Q h cs sl pc ls (.long y :: .long x :: st) := by
  subst hp; exact WP.step (fun p e s m args below meth c T L C X hT target k => XS.lor X.here C.1 rfl (hb C.2.2.2.1 hd) rfl k) H
theorem WP.lxor {x : Int64} {y : Int64} (hd : decode B.bytes pc = .ok (.lxor, 1)) (hp : pc + 1 = pc') (H : WP l B Z n0 Q h cs sl pc' ls (.long (x ^^^ y) :: st)) : WP l B Z n0 Q h cs sl pc ls (.long y :: .long x :: st) := by
  subst hp; exact WP.step (fun p e s m args below meth c T L C X hT target k => XS.lxor X.here C.1 rfl (hb C.2.2.2.1 hd) rfl k) H
theorem WP.ishl {x : Int32} {y : Int32} (hd : decode B.bytes pc = .ok (.ishl, 1)) (hp : pc + 1 = pc') (H : WP l B Z n0 Q h cs sl pc' ls (.int (x <<< (y &&& 31)) :: st)) : WP l B Z n0 Q h cs sl pc ls (.int y :: .int x :: st) := by
  subst hp; exact WP.step (fun p e s m args below meth c T L C X hT target k => XS.ishl X.here C.1 rfl (hb C.2.2.2.1 hd) rfl k) H
theorem WP.ishr {x : Int32} {y : Int32} (hd : decode B.bytes pc = .ok (.ishr, 1)) (hp : pc + 1 = pc') (H : WP l B Z n0 Q h cs sl pc' ls (.int (x >>> (y &&& 31)) :: st)) : WP l B Z n0 Q h cs sl pc ls (.int y :: .int x :: st) := by
  subst hp; exact WP.step (fun p e s m args below meth c T L C X hT target k => XS.ishr X.here C.1 rfl (hb C.2.2.2.1 hd) rfl k) H
theorem WP.iushr {x : Int32} {y : Int32} (hd : decode B.bytes pc = .ok (.iushr, 1)) (hp : pc + 1 = pc') (H : WP l B Z n0 Q h cs sl pc' ls (.int (ushr x y) :: st)) : WP l B Z n0 Q h cs sl pc ls (.int y :: .int x :: st) := by
  subst hp; exact WP.step (fun p e s m args below meth c T L C X hT target k => XS.iushr X.here C.1 rfl (hb C.2.2.2.1 hd) rfl k) H
theorem WP.lshl {x : Int64} {y : Int32} (hd : decode B.bytes pc = .ok (.lshl, 1)) (hp : pc + 1 = pc') (H : WP l B Z n0 Q h cs sl pc' ls (.long (x <<< (y &&& 63).toInt64) :: st)) : WP l B Z n0 Q h cs sl pc ls (.int y :: .long x :: st) := by
  subst hp; exact WP.step (fun p e s m args below meth c T L C X hT target k => XS.lshl X.here C.1 rfl (hb C.2.2.2.1 hd) rfl k) H
theorem WP.lshr {x : Int64} {y : Int32} (hd : decode B.bytes pc = .ok (.lshr, 1)) (hp : pc + 1 = pc') (H : WP l B Z n0 Q h cs sl pc' ls (.long (x >>> (y &&& 63).toInt64) :: st)) : WP l B Z n0 Q h cs sl pc ls (.int y :: .long x :: st) := by
  subst hp; exact WP.step (fun p e s m args below meth c T L C X hT target k => XS.lshr X.here C.1 rfl (hb C.2.2.2.1 hd) rfl k) H
theorem WP.lushr {x : Int64} {y : Int32} (hd : decode B.bytes pc = .ok (.lushr, 1)) (hp : pc + 1 = pc') (H : WP l B Z n0 Q h cs sl pc' ls (.long (ushrL x y) :: st)) : WP l B Z n0 Q h cs sl pc ls (.int y :: .long x :: st) := by
  subst hp; exact WP.step (fun p e s m args below meth c T L C X hT target k => XS.lushr X.here C.1 rfl (hb C.2.2.2.1 hd) rfl k) H
theorem WP.ineg {x : Int32}  (hd : decode B.bytes pc = .ok (.ineg, 1)) (hp : pc + 1 = pc') (H : WP l B Z n0 Q h cs sl pc' ls (.int (-x) :: st)) : WP l B Z n0 Q h cs sl pc ls (.int x :: st) := by
  subst hp; exact WP.step (fun p e s m args below meth c T L C X hT target k => XS.ineg X.here C.1 rfl (hb C.2.2.2.1 hd) rfl k) H
theorem WP.lneg {x : Int64}  (hd : decode B.bytes pc = .ok (.lneg, 1)) (hp : pc + 1 = pc') (H : WP l B Z n0 Q h cs sl pc' ls (.long (-x) :: st)) : WP l B Z n0 Q h cs sl pc ls (.long x :: st) := by
  subst hp; exact WP.step (fun p e s m args below meth c T L C X hT target k => XS.lneg X.here C.1 rfl (hb C.2.2.2.1 hd) rfl k) H
theorem WP.i2l {x : Int32}  (hd : decode B.bytes pc = .ok (.i2l, 1)) (hp : pc + 1 = pc') (H : WP l B Z n0 Q h cs sl pc' ls (.long x.toInt64 :: st)) : WP l B Z n0 Q h cs sl pc ls (.int x :: st) := by
  subst hp; exact WP.step (fun p e s m args below meth c T L C X hT target k => XS.i2l X.here C.1 rfl (hb C.2.2.2.1 hd) rfl k) H
theorem WP.l2i {x : Int64}  (hd : decode B.bytes pc = .ok (.l2i, 1)) (hp : pc + 1 = pc') (H : WP l B Z n0 Q h cs sl pc' ls (.int x.toInt32 :: st)) : WP l B Z n0 Q h cs sl pc ls (.long x :: st) := by
  subst hp; exact WP.step (fun p e s m args below meth c T L C X hT target k => XS.l2i X.here C.1 rfl (hb C.2.2.2.1 hd) rfl k) H
theorem WP.i2b {x : Int32}  (hd : decode B.bytes pc = .ok (.i2b, 1)) (hp : pc + 1 = pc') (H : WP l B Z n0 Q h cs sl pc' ls (.int x.toInt8.toInt32 :: st)) : WP l B Z n0 Q h cs sl pc ls (.int x :: st) := by
  subst hp; exact WP.step (fun p e s m args below meth c T L C X hT target k => XS.i2b X.here C.1 rfl (hb C.2.2.2.1 hd) rfl k) H
theorem WP.i2s {x : Int32}  (hd : decode B.bytes pc = .ok (.i2s, 1)) (hp : pc + 1 = pc') (H : WP l B Z n0 Q h cs sl pc' ls (.int x.toInt16.toInt32 :: st)) : WP l B Z n0 Q h cs sl pc ls (.int x :: st) := by
  subst hp; exact WP.step (fun p e s m args below meth c T L C X hT target k => XS.i2s X.here C.1 rfl (hb C.2.2.2.1 hd) rfl k) H
theorem WP.i2c {x : Int32}  (hd : decode B.bytes pc = .ok (.i2c, 1)) (hp : pc + 1 = pc') (H : WP l B Z n0 Q h cs sl pc' ls (.int x.toUInt32.toUInt16.toUInt32.toInt32 :: st)) : WP l B Z n0 Q h cs sl pc ls (.int x :: st) := by
  subst hp; exact WP.step (fun p e s m args below meth c T L C X hT target k => XS.i2c X.here C.1 rfl (hb C.2.2.2.1 hd) rfl k) H
/-! division (never by zero here), branches -/
theorem WP.irem {x y : Int32} (hd : decode B.bytes pc = .ok (.irem, 1)) (hy : y ≠ 0) (hp : pc + 1 = pc') (H : WP l B Z n0 Q h cs sl pc' ls (.int (x % y) :: st)) : WP l B Z n0 Q h cs sl pc ls (.int y :: .int x :: st) := by
  subst hp; exact WP.step (fun p e s m args below meth c T L C X hT target k => iremM X C.1 rfl (hb C.2.2.2.1 hd) rfl hy k) H
theorem WP.idiv {x y : Int32} (hd : decode B.bytes pc = .ok (.idiv, 1)) (hy : y ≠ 0) (hp : pc + 1 = pc') (H : WP l B Z n0 Q h cs sl pc' ls (.int (x / y) :: st)) : WP l B Z n0 Q h cs sl pc ls (.int y :: .int x :: st) := by
  subst hp; exact WP.step (fun p e s m args below meth c T L C X hT target k => XS.idiv X.here C.1 rfl (hb C.2.2.2.1 hd) rfl hy k) H
theorem WP.lrem {x y : Int64} (hd : decode B.bytes pc = .ok (.lrem, 1)) (hy : y ≠ 0) (hp : pc + 1 = pc') (H : WP l B Z n0 Q h cs sl pc' ls (.long (x - x / y * y) :: st)) : WP l B Z n0 Q h cs sl pc ls (.long y :: .long x :: st) := by
  subst hp; exact WP.step (fun p e s m args below meth c T L C X hT target k => XS.lrem X.here C.1 rfl (hb C.2.2.2.1 hd) rfl hy k) H
theorem WP.goto {o : Int} (hd : decode B.bytes pc = .ok (.goto o, 3)) (ht : (pc : Int) + o = (pc' : Int)) (H : WP l B Z n0 Q h cs sl pc' ls st) : WP l B Z n0 Q h cs sl pc ls st :=
  WP.step (fun p e s m args below meth c T L C X hT target k => XS.goto X.here C.1 rfl (pc0 := pc) (pc' := pc') rfl (hb C.2.2.2.1 hd) (by omega) (by omega) k) H
theorem own_holds (cd : ClassFile.Cond) (x y : Int32) : if_icmp.holds cd x y = match cd with | .eq => decide (x.toInt = y.toInt) | .ne => decide (x.toInt ≠ y.toInt) | .lt => decide (x.toInt < y.toInt) | .ge => decide (y.toInt ≤ x.toInt) | .gt => decide (y.toInt < x.toInt) | .le => decide (x.toInt ≤ y.toInt) := by
  have q : x = y ↔ x.toInt = y.toInt := ⟨fun h => by rw [h], Int32.toInt_inj.mp⟩
  by_cases e : x = y
  · subst e
    cases cd <;> simp [if_icmp.holds]
  · have e' : ¬ x.toInt = y.toInt := fun h => e (q.mpr h)
    cases cd <;> simp [if_icmp.holds, e, e', Int32.lt_iff_toInt_lt, Int32.le_iff_toInt_le]
theorem own_cmpL (cd : ClassFile.Cond) (x y : Int64) : if_icmp.holds cd (cmpL x y) 0 = match cd with | .eq => decide (x.toInt = y.toInt) | .ne => decide (x.toInt ≠ y.toInt) | .lt => decide (x.toInt < y.toInt) | .ge => decide (y.toInt ≤ x.toInt) | .gt => decide (y.toInt < x.toInt) | .le => decide (x.toInt ≤ y.toInt) := by
  have q : x = y ↔ x.toInt = y.toInt := ⟨fun h => by rw [h], Int64.toInt_inj.mp⟩
  rw [own_holds]
  simp only [cmpL, GT.gt, Int64.lt_iff_toInt_lt, q]
  have e1 : (1 : Int32).toInt = 1 := rfl
  have e0 : (0 : Int32).toInt = 0 := rfl
  have em : (-1 : Int32).toInt = -1 := rfl
  by_cases c1 : y.toInt < x.toInt
  · simp only [c1, if_true, e1, e0]
    cases cd <;> simp <;> omega
  · by_cases c2 : x.toInt = y.toInt
    · simp only [c2, Int.lt_irrefl, if_false, if_true, e0]
      cases cd <;> simp
    · simp only [c1, c2, if_false, em, e0]
      cases cd <;> simp <;> omega
theorem WP.icmp {cd : ClassFile.Cond} {x y : Int32} {o : Int} {tgt : Nat} (hd : decode B.bytes pc = .ok (.if_icmp cd o, 3)) (ht : (pc : Int) + o = (tgt : Int)) (hp : pc + 3 = pc') (HY : if_icmp.holds cd x y = true → WP l B Z n0 Q h cs sl tgt ls st) (HN : if_icmp.holds cd x y = false → WP l B Z n0 Q h cs sl pc' ls st) : WP l B Z n0 Q h cs sl pc ls (.int y :: .int x :: st) := by
  subst hp
  cases hc : if_icmp.holds cd x y
  · exact WP.step (fun p e s m args below meth c T L C X hT target k => XS.icmpNo X.here C.1 rfl (hb C.2.2.2.1 hd) rfl hc k) (HN hc)
  · exact WP.step (fun p e s m args below meth c T L C X hT target k => XS.icmpYes X.here C.1 rfl (pc0 := pc) (pc' := tgt) rfl (hb C.2.2.2.1 hd) rfl hc (by omega) (by omega) k) (HY hc)
theorem WP.ifc {cd : ClassFile.Cond} {x : Int32} {o : Int} {tgt : Nat} (hd : decode B.bytes pc = .ok (.ifCond cd o, 3)) (ht : (pc : Int) + o = (tgt : Int)) (hp : pc + 3 = pc') (HY : if_icmp.holds cd x 0 = true → WP l B Z n0 Q h cs sl tgt ls st) (HN : if_icmp.holds cd x 0 = false → WP l B Z n0 Q h cs sl pc' ls st) : WP l B Z n0 Q h cs sl pc ls (.int x :: st) := by
  subst hp
  cases hc : if_icmp.holds cd x 0
  · exact WP.step (fun p e s m args below meth c T L C X hT target k => XS.ifNo X.here C.1 rfl (hb C.2.2.2.1 hd) rfl ((if0 _ _).trans hc) k) (HN hc)
  · exact WP.step (fun p e s m args below meth c T L C X hT target k => XS.ifYes X.here C.1 rfl (pc0 := pc) (pc' := tgt) rfl (hb C.2.2.2.1 hd) rfl ((if0 _ _).trans hc) (by omega) (by omega) k) (HY hc)
theorem WP.lcmp {x y : Int64} (hd : decode B.bytes pc = .ok (.lcmp, 1)) (hp : pc + 1 = pc') (H : WP l B Z n0 Q h cs sl pc' ls (.int (cmpL x y) :: st)) : WP l B Z n0 Q h cs sl pc ls (.long y :: .long x :: st) := by
  subst hp; exact WP.step (fun p e s m args below meth c T L C X hT target k => XS.lcmp X.here C.1 rfl (hb C.2.2.2.1 hd) rfl k) H
theorem WP.icmpEq {x y : Int32} {o : Int} {tgt : Nat} (hd : decode B.bytes pc = .ok (.if_icmp .eq o, 3)) (ht : (pc : Int) + o = (tgt : Int)) (hp : pc + 3 = pc') (HY : x.toInt = y.toInt → WP l B Z n0 Q h cs sl tgt ls st) (HN : x.toInt ≠ y.toInt → WP l B Z n0 Q h cs sl pc' ls st) : WP l B Z n0 Q h cs sl pc ls (.int y :: .int x :: st) :=
  WP.icmp hd ht hp (fun q => HY (by rw [own_holds] at q; simpa using q)) (fun q => HN (by rw [own_holds] at q; simpa using q))
theorem WP.ifEq {x : Int32} {o : Int} {tgt : Nat} (hd : decode B.bytes pc = .ok (.ifCond .eq o, 3)) (ht : (pc : Int) + o = (tgt : Int)) (hp : pc + 3 = pc') (HY : x.toInt = 0 → WP l B Z n0 Q h cs sl tgt ls st) (HN : x.toInt ≠ 0 → WP l B Z n0 Q h cs sl pc' ls st) : WP l B Z n0 Q h cs sl pc ls (.int x :: st) :=
  WP.ifc hd ht hp (fun q => HY (by rw [own_holds] at q; simpa using q)) (fun q => HN (by rw [own_holds] at q; simpa using q))
theorem WP.lcmpEq {x y : Int64} {o : Int} {tgt pc1 : Nat} (hd : decode B.bytes pc = .ok (.lcmp, 1)) (h1 : pc + 1 = pc1) (hd1 : decode B.bytes pc1 = .ok (.ifCond .eq o, 3)) (ht : (pc1 : Int) + o = (tgt : Int)) (hp : pc1 + 3 = pc') (HY : x.toInt = y.toInt → WP l B Z n0 Q h cs sl tgt ls st) (HN : x.toInt ≠ y.toInt → WP l B Z n0 Q h cs sl pc' ls st) : WP l B Z n0 Q h cs sl pc ls (.long y :: .long x :: st) :=
  WP.lcmp hd h1 (WP.ifc hd1 ht hp (fun q => HY (by rw [own_cmpL] at q; simpa using q)) (fun q => HN (by rw [own_cmpL] at q; simpa using q)))
theorem WP.icmpNe {x y : Int32} {o : Int} {tgt : Nat} (hd : decode B.bytes pc = .ok (.if_icmp .ne o, 3)) (ht : (pc : Int) + o = (tgt : Int)) (hp : pc + 3 = pc') (HY : x.toInt ≠ y.toInt → WP l B Z n0 Q h cs sl tgt ls st) (HN : x.toInt = y.toInt → WP l B Z n0 Q h cs sl pc' ls st) : WP l B Z n0 Q h cs sl pc ls (.int y :: .int x :: st) :=
  WP.icmp hd ht hp (fun q => HY (by rw [own_holds] at q; simpa using q)) (fun q => HN (by rw [own_holds] at q; simpa using q))
theorem WP.ifNe {x : Int32} {o : Int} {tgt : Nat} (hd : decode B.bytes pc = .ok (.ifCond .ne o, 3)) (ht : (pc : Int) + o = (tgt : Int)) (hp : pc + 3 = pc') (HY : x.toInt ≠ 0 → WP l B Z n0 Q h cs sl tgt ls st) (HN : x.toInt = 0 → WP l B Z n0 Q h cs sl pc' ls st) : WP l B Z n0 Q h cs sl pc ls (.int x :: st) :=
  WP.ifc hd ht hp (fun q => HY (by rw [own_holds] at q; simpa using q)) (fun q => HN (by rw [own_holds] at q; simpa using q))
theorem WP.lcmpNe {x y : Int64} {o : Int} {tgt pc1 : Nat} (hd : decode B.bytes pc = .ok (.lcmp, 1)) (h1 : pc + 1 = pc1) (hd1 : decode B.bytes pc1 = .ok (.ifCond .ne o, 3)) (ht : (pc1 : Int) + o = (tgt : Int)) (hp : pc1 + 3 = pc') (HY : x.toInt ≠ y.toInt → WP l B Z n0 Q h cs sl tgt ls st) (HN : x.toInt = y.toInt → WP l B Z n0 Q h cs sl pc' ls st) : WP l B Z n0 Q h cs sl pc ls (.long y :: .long x :: st) :=
  WP.lcmp hd h1 (WP.ifc hd1 ht hp (fun q => HY (by rw [own_cmpL] at q; simpa using q)) (fun q => HN (by rw [own_cmpL] at q; simpa using q)))
theorem WP.icmpLt {x y : Int32} {o : Int} {tgt : Nat} (hd : decode B.bytes pc = .ok (.if_icmp .lt o, 3)) (ht : (pc : Int) + o = (tgt : Int)) (hp : pc + 3 = pc') (HY : x.toInt < y.toInt → WP l B Z n0 Q h cs sl tgt ls st) (HN : y.toInt ≤ x.toInt → WP l B Z n0 Q h cs sl pc' ls st) : WP l B Z n0 Q h cs sl pc ls (.int y :: .int x :: st) :=
  WP.icmp hd ht hp (fun q => HY (by rw [own_holds] at q; simpa using q)) (fun q => HN (by rw [own_holds] at q; simpa using q))
theorem WP.ifLt {x : Int32} {o : Int} {tgt : Nat} (hd : decode B.bytes pc = .ok (.ifCond .lt o, 3)) (ht : (pc : Int) + o = (tgt : Int)) (hp : pc + 3 = pc') (HY : x.toInt < 0 → WP l B Z n0 Q h cs sl tgt ls st) (HN : 0 ≤ x.toInt → WP l B Z n0 Q h cs sl pc' ls st) : WP l B Z n0 Q h cs sl pc ls (.int x :: st) :=
  WP.ifc hd ht hp (fun q => HY (by rw [own_holds] at q; simpa using q)) (fun q => HN (by rw [own_holds] at q; simpa using q))
theorem WP.lcmpLt {x y : Int64} {o : Int} {tgt pc1 : Nat} (hd : decode B.bytes pc = .ok (.lcmp, 1)) (h1 : pc + 1 = pc1) (hd1 : decode B.bytes pc1 = .ok (.ifCond .lt o, 3)) (ht : (pc1 : Int) + o = (tgt : Int)) (hp : pc1 + 3 = pc') (HY : x.toInt < y.toInt → WP l B Z n0 Q h cs sl tgt ls st) (HN : y.toInt ≤ x.toInt → WP l B Z n0 Q h cs sl pc' ls st) : WP l B Z n0 Q h cs sl pc ls (.long y :: .long x :: st) :=
  WP.lcmp hd h1 (WP.ifc hd1 ht hp (fun q => HY (by rw [own_cmpL] at q; simpa using q)) (fun q => HN (by rw [own_cmpL] at q; simpa using q)))
theorem WP.icmpGe {x y : Int32} {o : Int} {tgt : Nat} (hd : decode B.bytes pc = .ok (.if_icmp .ge o, 3)) (ht : (pc : Int) + o = (tgt : Int)) (hp : pc + 3 = pc') (HY : y.toInt ≤ x.toInt → WP l B Z n0 Q h cs sl tgt ls st) (HN : x.toInt < y.toInt → WP l B Z n0 Q h cs sl pc' ls st) : WP l B Z n0 Q h cs sl pc ls (.int y :: .int x :: st) :=
  WP.icmp hd ht hp (fun q => HY (by rw [own_holds] at q; simpa using q)) (fun q => HN (by rw [own_holds] at q; simpa using q))
theorem WP.ifGe {x : Int32} {o : Int} {tgt : Nat} (hd : decode B.bytes pc = .ok (.ifCond .ge o, 3)) (ht : (pc : Int) + o = (tgt : Int)) (hp : pc + 3 = pc') (HY : 0 ≤ x.toInt → WP l B Z n0 Q h cs sl tgt ls st) (HN : x.toInt < 0 → WP l B Z n0 Q h cs sl pc' ls st) : WP l B Z n0 Q h cs sl pc ls (.int x :: st) :=
  WP.ifc hd ht hp (fun q => HY (by rw [own_holds] at q; simpa using q)) (fun q => HN (by rw [own_holds] at q; simpa using q))
theorem WP.lcmpGe {x y : Int64} {o : Int} {tgt pc1 : Nat} (hd : decode B.bytes pc = .ok (.lcmp, 1)) (h1 : pc + 1 = pc1) (hd1 : decode B.bytes pc1 = .ok (.ifCond .ge o, 3)) (ht : (pc1 : Int) + o = (tgt : Int)) (hp : pc1 + 3 = pc') (HY : y.toInt ≤ x.toInt → WP l B Z n0 Q h cs sl tgt ls st) (HN : x.toInt < y.toInt → WP l B Z n0 Q h cs sl pc' ls st) : WP l B Z n0 Q h cs sl pc ls (.long y :: .long x :: st) :=
  WP.lcmp hd h1 (WP.ifc hd1 ht hp (fun q => HY (by rw [own_cmpL] at q; simpa using q)) (fun q => HN (by rw [own_cmpL] at q; simpa using q)))
theorem WP.icmpGt {x y : Int32} {o : Int} {tgt : Nat} (hd : decode B.bytes pc = .ok (.if_icmp .gt o, 3)) (ht : (pc : Int) + o = (tgt : Int)) (hp : pc + 3 = pc') (HY : y.toInt < x.toInt → WP l B Z n0 Q h cs sl tgt ls st) (HN : x.toInt ≤ y.toInt → WP l B Z n0 Q h cs sl pc' ls st) : WP l B Z n0 Q h cs sl pc ls (.int y :: .int x :: st) :=
  WP.icmp hd ht hp (fun q => HY (by rw [own_holds] at q; simpa using q)) (fun q => HN (by rw [own_holds] at q; simpa using q))
theorem WP.ifGt {x : Int32} {o : Int} {tgt : Nat} (hd : decode B.bytes pc = .ok (.ifCond .gt o, 3)) (ht : (pc : Int) + o = (tgt : Int)) (hp : pc + 3 = pc') (HY : 0 < x.toInt → WP l B Z n0 Q h cs sl tgt ls st) (HN : x.toInt ≤ 0 → WP l B Z n0 Q h cs sl pc' ls st) : WP l B Z n0 Q h cs sl pc ls (.int x :: st) :=
  WP.ifc hd ht hp (fun q => HY (by rw [own_holds] at q; simpa using q)) (fun q => HN (by rw [own_holds] at q; simpa using q))
theorem WP.lcmpGt {x y : Int64} {o : Int} {tgt pc1 : Nat} (hd : decode B.bytes pc = .ok (.lcmp, 1)) (h1 : pc + 1 = pc1) (hd1 : decode B.bytes pc1 = .ok (.ifCond .gt o, 3)) (ht : (pc1 : Int) + o = (tgt : Int)) (hp : pc1 + 3 = pc') (HY : y.toInt < x.toInt → WP l B Z n0 Q h cs sl tgt ls st) (HN : x.toInt ≤ y.toInt → WP l B Z n0 Q h cs sl pc' ls st) : WP l B Z n0 Q h cs sl pc ls (.long y :: .long x :: st) :=
  WP.lcmp hd h1 (WP.ifc hd1 ht hp (fun q => HY (by rw [own_cmpL] at q; simpa using q)) (fun q => HN (by rw [own_cmpL] at q; simpa using q)))
theorem WP.icmpLe {x y : Int32} {o : Int} {tgt : Nat} (hd : decode B.bytes pc = .ok (.if_icmp .le o, 3)) (ht : (pc : Int) + o = (tgt : Int)) (hp : pc + 3 = pc') (HY : x.toInt ≤ y.toInt → WP l B Z n0 Q h cs sl tgt ls st) (HN : y.toInt < x.toInt → WP l B Z n0 Q h cs sl pc' ls st) : WP l B Z n0 Q h cs sl pc ls (.int y :: .int x :: st) :=
  WP.icmp hd ht hp (fun q => HY (by rw [own_holds] at q; simpa using q)) (fun q => HN (by rw [own_holds] at q; simpa using q))
theorem WP.ifLe {x : Int32} {o : Int} {tgt : Nat} (hd : decode B.bytes pc = .ok (.ifCond .le o, 3)) (ht : (pc : Int) + o = (tgt : Int)) (hp : pc + 3 = pc') (HY : x.toInt ≤ 0 → WP l B Z n0 Q h cs sl tgt ls st) (HN : 0 < x.toInt → WP l B Z n0 Q h cs sl pc' ls st) : WP l B Z n0 Q h cs sl pc ls (.int x :: st) :=
  WP.ifc hd ht hp (fun q => HY (by rw [own_holds] at q; simpa using q)) (fun q => HN (by rw [own_holds] at q; simpa using q))
theorem WP.lcmpLe {x y : Int64} {o : Int} {tgt pc1 : Nat} (hd : decode B.bytes pc = .ok (.lcmp, 1)) (h1 : pc + 1 = pc1) (hd1 : decode B.bytes pc1 = .ok (.ifCond .le o, 3)) (ht : (pc1 : Int) + o = (tgt : Int)) (hp : pc1 + 3 = pc') (HY : x.toInt ≤ y.toInt → WP l B Z n0 Q h cs sl tgt ls st) (HN : y.toInt < x.toInt → WP l B Z n0 Q h cs sl pc' ls st) : WP l B Z n0 Q h cs sl pc ls (.long y :: .long x :: st) :=
  WP.lcmp hd h1 (WP.ifc hd1 ht hp (fun q => HY (by rw [own_cmpL] at q; simpa using q)) (fun q => HN (by rw [own_cmpL] at q; simpa using q)))
theorem WP.ifnullY {o : Int} (hd : decode B.bytes pc = .ok (.ifnull o, 3)) (ht : (pc : Int) + o = (pc' : Int)) (H : WP l B Z n0 Q h cs sl pc' ls st) : WP l B Z n0 Q h cs sl pc ls (.null :: st) :=
  WP.step (fun p e s m args below meth c T L C X hT target k => XS.ifnullYes X.here C.1 rfl (pc0 := pc) (pc' := pc') rfl (hb C.2.2.2.1 hd) rfl (by omega) (by omega) k) H
theorem WP.ifnullN {o : Int} {a : Addr} (hd : decode B.bytes pc = .ok (.ifnull o, 3)) (hp : pc + 3 = pc') (H : WP l B Z n0 Q h cs sl pc' ls st) : WP l B Z n0 Q h cs sl pc ls (.ref a :: st) := by
  subst hp; exact WP.step (fun p e s m args below meth c T L C X hT target k => XS.ifnullNo X.here C.1 rfl (hb C.2.2.2.1 hd) rfl k) H
theorem WP.ifnonnullN {o : Int} (hd : decode B.bytes pc = .ok (.ifnonnull o, 3)) (hp : pc + 3 = pc') (H : WP l B Z n0 Q h cs sl pc' ls st) : WP l B Z n0 Q h cs sl pc ls (.null :: st) := by
  subst hp; exact WP.step (fun p e s m args below meth c T L C X hT target k => XS.ifnonnullNo X.here C.1 rfl (hb C.2.2.2.1 hd) rfl k) H
theorem WP.ifnonnullY {o : Int} {a : Addr} (hd : decode B.bytes pc = .ok (.ifnonnull o, 3)) (ht : (pc : Int) + o = (pc' : Int)) (H : WP l B Z n0 Q h cs sl pc' ls st) : WP l B Z n0 Q h cs sl pc ls (.ref a :: st) :=
  WP.step (fun p e s m args below meth c T L C X hT target k => XS.ifnonnullYes X.here C.1 rfl (pc0 := pc) (pc' := pc') rfl (hb C.2.2.2.1 hd) rfl (by omega) (by omega) k) H
theorem WP.acmpEq {x y : Value} {o : Int} {tgt : Nat} (hd : decode B.bytes pc = .ok (.if_acmp .eq o, 3)) (ht : (pc : Int) + o = (tgt : Int)) (hp : pc + 3 = pc') (h1 : x.isRef = true) (h2 : y.isRef = true) (HY : x = y → WP l B Z n0 Q h cs sl tgt ls st) (HN : x ≠ y → WP l B Z n0 Q h cs sl pc' ls st) : WP l B Z n0 Q h cs sl pc ls (y :: x :: st) := by
  subst hp
  have e1 : ((pc : Int) + o).toNat = tgt := by omega
  by_cases q : x = y
  · exact WP.step (fun p e s m args below meth c T L C X hT target k => Jvm.RoadKit.acmp (g := mkF m pc ls (y :: x :: st)) X C.1 rfl h1 h2 (pc0 := pc) (pc' := tgt) (same := true) rfl (hb C.2.2.2.1 hd) rfl (by simp [q]) (by omega) (by simp [acV, e1]) k) (HY q)
  · exact WP.step (fun p e s m args below meth c T L C X hT target k => Jvm.RoadKit.acmp (g := mkF m pc ls (y :: x :: st)) X C.1 rfl h1 h2 (pc0 := pc) (pc' := pc + 3) (same := false) rfl (hb C.2.2.2.1 hd) rfl (by simp [q]) (by omega) (by simp [acV]) k) (HN q)
theorem WP.acmpNe {x y : Value} {o : Int} {tgt : Nat} (hd : decode B.bytes pc = .ok (.if_acmp .ne o, 3)) (ht : (pc : Int) + o = (tgt : Int)) (hp : pc + 3 = pc') (h1 : x.isRef = true) (h2 : y.isRef = true) (HY : x ≠ y → WP l B Z n0 Q h cs sl tgt ls st) (HN : x = y → WP l B Z n0 Q h cs sl pc' ls st) : WP l B Z n0 Q h cs sl pc ls (y :: x :: st) := by
  subst hp
  have e1 : ((pc : Int) + o).toNat = tgt := by omega
  by_cases q : x = y
  · exact WP.step (fun p e s m args below meth c T L C X hT target k => Jvm.RoadKit.acmp (g := mkF m pc ls (y :: x :: st)) X C.1 rfl h1 h2 (pc0 := pc) (pc' := pc + 3) (same := true) rfl (hb C.2.2.2.1 hd) rfl (by simp [q]) (by omega) (by simp [acV]) k) (HN q)
  · exact WP.step (fun p e s m args below meth c T L C X hT target k => Jvm.RoadKit.acmp (g := mkF m pc ls (y :: x :: st)) X C.1 rfl h1 h2 (pc0 := pc) (pc' := tgt) (same := false) rfl (hb C.2.2.2.1 hd) rfl (by simp [q]) (by omega) (by simp [acV, e1]) k) (HY q)
/-! returns -/
theorem WP.ret0 (hd : decode B.bytes pc = .ok (.return_, 1)) (hr : B.ret = none) (hc : cs ≤ B.room.cells) (hs : sl ≤ B.room.slots) (hQ : Q none h) : WP l B Z n0 Q h cs sl pc ls [] := by
  intro p e s m args below meth c T L C X hT N hn
  obtain ⟨hx, hZ, hown, hby, hml, hret, hlk, hnm⟩ := C
  obtain ⟨fs, hrr, hrun, hended, hW, hsame⟩ := X.leave (v := none) (fun _ => rfl) hlk
  have hh : (T.setFrames fs).heap = h := hT
  exact ⟨T.setFrames fs, none, L, X.returnOut hx (hret.trans hr) (hb hby hd) hrr, hrun, hended, by rw [hh]; exact hQ, N, by rw [hh]; exact hn, ⟨_, rfl⟩, hW, hsame.mono hc hs⟩
theorem WP.retI {z : Int32} (hd : decode B.bytes pc = .ok (.ireturn, 1)) (hr : B.ret = some .int) (hc : cs ≤ B.room.cells) (hs : sl ≤ B.room.slots) (hQ : Q (some (.int z)) h) : WP l B Z n0 Q h cs sl pc ls (.int z :: st) := by
  intro p e s m args below meth c T L C X hT N hn
  obtain ⟨hx, hZ, hown, hby, hml, hret, hlk, hnm⟩ := C
  obtain ⟨fs, hrr, hrun, hended, hW, hsame⟩ := X.leave (v := some (.int z)) (fun q => by rw [hret, hr] at q; cases q) hlk
  have hh : (T.setFrames fs).heap = h := hT
  exact ⟨T.setFrames fs, _, L, retOut X hx (hret.trans hr) rfl (Or.inl ⟨rfl, Or.inl rfl, z, rfl⟩) (hb hby hd) hrr, hrun, hended, by rw [hh]; exact hQ, N, by rw [hh]; exact hn, ⟨_, rfl⟩, hW, hsame.mono hc hs⟩
theorem WP.retN {z : Int32} {t : FieldType} (hd : decode B.bytes pc = .ok (.ireturn, 1)) (hr : B.ret = some t) (ht : t = .boolean ∨ t = .byte ∨ t = .char ∨ t = .short) (hc : cs ≤ B.room.cells) (hs : sl ≤ B.room.slots) (hQ : Q (some (.int (nar t z))) h) : WP l B Z n0 Q h cs sl pc ls (.int z :: st) := by
  intro p e s m args below meth c T L C X hT N hn
  obtain ⟨hx, hZ, hown, hby, hml, hret, hlk, hnm⟩ := C
  obtain ⟨fs, hrr, hrun, hended, hW, hsame⟩ := X.leave (v := some (.int (nar t z))) (fun q => by rw [hret, hr] at q; cases q) hlk
  have hh : (T.setFrames fs).heap = h := hT
  exact ⟨T.setFrames fs, _, L, Jvm.RoadKit.retN X hx (hret.trans hr) ht (hb hby hd) hrr, hrun, hended, by rw [hh]; exact hQ, N, by rw [hh]; exact hn, ⟨_, rfl⟩, hW, hsame.mono hc hs⟩
theorem WP.retJ {z : Int64} (hd : decode B.bytes pc = .ok (.lreturn, 1)) (hr : B.ret = some .long) (hc : cs ≤ B.room.cells) (hs : sl ≤ B.room.slots) (hQ : Q (some (.long z)) h) : WP l B Z n0 Q h cs sl pc ls (.long z :: st) := by
  intro p e s m args below meth c T L C X hT N hn
  obtain ⟨hx, hZ, hown, hby, hml, hret, hlk, hnm⟩ := C
  obtain ⟨fs, hrr, hrun, hended, hW, hsame⟩ := X.leave (v := some (.long z)) (fun q => by rw [hret, hr] at q; cases q) hlk
  have hh : (T.setFrames fs).heap = h := hT
  exact ⟨T.setFrames fs, _, L, retOut X hx (hret.trans hr) rfl (Or.inr (Or.inl ⟨rfl, rfl, z, rfl⟩)) (hb hby hd) hrr, hrun, hended, by rw [hh]; exact hQ, N, by rw [hh]; exact hn, ⟨_, rfl⟩, hW, hsame.mono hc hs⟩
theorem WP.retA {z : Value} {t : FieldType} (hd : decode B.bytes pc = .ok (.areturn, 1)) (hr : B.ret = some t) (ht : t.isReference = true) (hz : z.isRef = true) (hc : cs ≤ B.room.cells) (hs : sl ≤ B.room.slots) (hQ : Q (some z) h) : WP l B Z n0 Q h cs sl pc ls (z :: st) := by
  intro p e s m args below meth c T L C X hT N hn
  obtain ⟨hx, hZ, hown, hby, hml, hret, hlk, hnm⟩ := C
  obtain ⟨fs, hrr, hrun, hended, hW, hsame⟩ := X.leave (v := some z) (fun q => by rw [hret, hr] at q; cases q) hlk
  have hh : (T.setFrames fs).heap = h := hT
  have hnw : narrow t z = z := by rcases ref_cases hz with rfl | ⟨a, rfl⟩ <;> cases t <;> rfl
  exact ⟨T.setFrames fs, _, L, retOut X hx (hret.trans hr) hnw (Or.inr (Or.inr (Or.inr (Or.inr ⟨rfl, ht, hz⟩)))) (hb hby hd) hrr, hrun, hended, by rw [hh]; exact hQ, N, by rw [hh]; exact hn, ⟨_, rfl⟩, hW, hsame.mono hc hs⟩
/-! calls -/
theorem WP.callS {y : MethodName} {By : Bod} {as : List Value} {idx : Nat} {Qy : Option Value → Heap → Prop} {ps : List FieldType} {r : Option FieldType}
    (hd : decode B.bytes pc = .ok (.invokestatic idx, 3)) (w1 : (Cond.methodLink B.own idx y).before a0 Z = true) (w2 : (Cond.static y).before a0 Z = true) (w3 : (Cond.initialized y.cls).before a0 Z = true) (w4 : (Cond.code y By.bytes By.maxL By.ret).before a0 Z = true)
    (hy : y.cls ≠ "java/lang/invoke/MethodHandle" ∧ y.cls ≠ "java/lang/invoke/VarHandle") (hM : OMet l y By Z n0 as.toArray h Qy) (hpd : parseMethodDescriptor y.desc = some ⟨ps, r⟩) (hlen : as.length = ps.length) (hst : st = as.reverse ++ rest) (hls : ls.size = B.maxL)
    (hfr : By.room.frames + 1 ≤ B.room.frames) (hlo : (rest.map fun v => v.category).sum + (By.maxL + 11) + By.room.locals ≤ B.room.locals) (hc : cs + By.room.cells ≤ B.room.cells) (hs : sl + By.room.slots ≤ B.room.slots) (hp : pc + 3 = pc')
    (H : ∀ v h', Qy v h' → WP l B Z n0 Q h' (cs + By.room.cells) (sl + By.room.slots) pc' ls (v.toList ++ rest)) : WP l B Z n0 Q h cs sl pc ls st := by
  subst hp
  intro p e s m args below meth c T L C X hT N hn
  obtain ⟨hx, hZ, hown, hby, hml, hret, hlk, hnm⟩ := C
  obtain ⟨v, _, ⟨T1, L1, k1, n1⟩, -, X1, ⟨Lc, hQ, l1, y1, z1⟩, stp⟩ := Jvm.LawKit.callS X hx hown (mvT hZ w1) (mvT hZ w2) (mvT hZ w3) (mvT hZ w4) hy (backOf (W := (rest.map fun v => v.category).sum) (Q := fun v h' L => Qy v h' ∧ Fr n0 L ∧ n0 ≤ h'.size) (hM hn []) hZ w4 w3 hfr hlo) (g := mkF m pc ls st) rfl (by rw [hml]; exact hls) (argsL := as) (rest := rest) (lenOf hpd hlen) hst (by show 2 * 0 + _ ≤ _; omega) (hb hby hd) (fun _ _ => ⟨rfl, hT, hc, hs⟩)
  dsimp only [Pt.U, Pt.locs, Pt.cells, Pt.slots] at X1 l1 y1 z1 stp hQ
  subst l1 y1 z1
  obtain ⟨U, v', L', a1, rr⟩ := H v T1.heap hQ.1 p e s m args below meth c T1 _ ⟨hx, hZ, hown, hby, hml, hret, hlk, hnm⟩ X1 rfl (N.app hQ.2.1) hQ.2.2
  exact ⟨U, v', L', stp _ a1, rr⟩
theorem WP.callI {y : MethodName} {By : Bod} {as : List Value} {a : Addr} {idx : Nat} {Qy : Option Value → Heap → Prop} {ps : List FieldType} {r : Option FieldType}
    (hd : decode B.bytes pc = .ok (.invokespecial idx, 3)) (w1 : (Cond.methodLink B.own idx y).before a0 Z = true) (w2 : (Cond.instanceMethod y).before a0 Z = true) (w3 : (Cond.initialized y.cls).before a0 Z = true) (w4 : (Cond.code y By.bytes By.maxL By.ret).before a0 Z = true) (hyn : y.name = "<init>") (hyr : By.ret = none)
    (hy : y.cls ≠ "java/lang/invoke/MethodHandle" ∧ y.cls ≠ "java/lang/invoke/VarHandle") (hM : OMet l y By Z n0 (.ref a :: as).toArray h Qy) (hpd : parseMethodDescriptor y.desc = some ⟨ps, r⟩) (hlen : as.length = ps.length) (hst : st = as.reverse ++ .ref a :: rest) (hls : ls.size = B.maxL)
    (hfr : By.room.frames + 1 ≤ B.room.frames) (hlo : (rest.map fun v => v.category).sum + (By.maxL + 11) + By.room.locals ≤ B.room.locals) (hc : cs + By.room.cells ≤ B.room.cells) (hs : sl + By.room.slots ≤ B.room.slots) (hp : pc + 3 = pc')
    (H : ∀ v h', Qy v h' → WP l B Z n0 Q h' (cs + By.room.cells) (sl + By.room.slots) pc' ls (v.toList ++ rest)) : WP l B Z n0 Q h cs sl pc ls st := by
  subst hp
  intro p e s m args below meth c T L C X hT N hn
  obtain ⟨hx, hZ, hown, hby, hml, hret, hlk, hnm⟩ := C
  obtain ⟨v, _, ⟨T1, L1, k1, n1⟩, -, X1, ⟨Lc, hQ, l1, y1, z1⟩, stp⟩ := X.specialBack hx (y := y) hyn hown (mvT hZ w1) (mvT hZ w2) (mvT hZ (hyr ▸ w4)) hy (backOf (W := (rest.map fun v => v.category).sum) (Q := fun v h' L => Qy v h' ∧ Fr n0 L ∧ n0 ≤ h'.size) (hM hn []) hZ w4 w3 hfr hlo) (g := mkF m pc ls st) rfl (by rw [hml]; exact hls) (Steps.refl _) (a := a) (argsL := as) (rest := rest) (lenOf hpd hlen) hst (by show 2 * 0 + _ ≤ _; omega) (hb hby hd) (fun _ _ => ⟨rfl, hT, hc, hs⟩)
  dsimp only [Pt.U, Pt.locs, Pt.cells, Pt.slots] at X1 l1 y1 z1 stp hQ
  subst l1 y1 z1
  obtain ⟨U, v', L', a1, rr⟩ := H v T1.heap hQ.1 p e s m args below meth c T1 _ ⟨hx, hZ, hown, hby, hml, hret, hlk, hnm⟩ X1 rfl (N.app hQ.2.1) hQ.2.2
  exact ⟨U, v', L', stp.trans a1, rr⟩
theorem WP.callV {y z : MethodName} {By : Bod} {Cl : String} {as : List Value} {a : Addr} {idx : Nat} {Qy : Option Value → Heap → Prop} {ps : List FieldType} {r : Option FieldType}
    (hd : decode B.bytes pc = .ok (.invokevirtual idx, 3)) (w1 : (Cond.methodLink B.own idx y).before a0 Z = true) (w2 : (Cond.declares y).before a0 Z = true) (w5 : (Cond.selects Cl y z).before a0 Z = true) (w6 : (Cond.instanceMethod z).before a0 Z = true) (w3 : (Cond.initialized z.cls).before a0 Z = true) (w4 : (Cond.code z By.bytes By.maxL By.ret).before a0 Z = true) (hyz : y = z) (hcl : Cl = y.cls)
    (hy : y.cls ≠ "java/lang/invoke/MethodHandle" ∧ y.cls ≠ "java/lang/invoke/VarHandle") (E : Exa Z h a Cl) (hM : OMet l z By Z n0 (.ref a :: as).toArray h Qy) (hpd : parseMethodDescriptor y.desc = some ⟨ps, r⟩) (hlen : as.length = ps.length) (hst : st = as.reverse ++ .ref a :: rest) (hls : ls.size = B.maxL)
    (hfr : By.room.frames + 1 ≤ B.room.frames) (hlo : (rest.map fun v => v.category).sum + (By.maxL + 11) + By.room.locals ≤ B.room.locals) (hc : cs + By.room.cells ≤ B.room.cells) (hs : sl + By.room.slots ≤ B.room.slots) (hp : pc + 3 = pc')
    (H : ∀ v h', Qy v h' → WP l B Z n0 Q h' (cs + By.room.cells) (sl + By.room.slots) pc' ls (v.toList ++ rest)) : WP l B Z n0 Q h cs sl pc ls st := by
  subst hp hyz hcl
  intro p e s m args below meth c T L C X hT N hn
  obtain ⟨hx, hZ, hown, hby, hml, hret, hlk, hnm⟩ := C
  obtain ⟨cq, kq, qa, qb, qc⟩ := isOf (T := T) hZ hT E
  obtain ⟨v, _, ⟨T1, L1, k1, n1⟩, -, X1, ⟨Lc, hQ, l1, y1, z1⟩, stp⟩ := X.virtualBack hx (y := y) (z := y) hown (mvT hZ w1) (mvT hZ w2) (notFace_of_selects (args := #[]) (mvT hZ w5)) (mvT hZ w5) (mvT hZ w6) hy (backOf (W := (rest.map fun v => v.category).sum) (Q := fun v h' L => Qy v h' ∧ Fr n0 L ∧ n0 ≤ h'.size) (hM hn []) hZ w4 w3 hfr hlo) qa qc (g := mkF m pc ls st) rfl (by rw [hml]; exact hls) (Steps.refl _) (argsL := as) (rest := rest) (lenOf hpd hlen) hst (by show 2 * 0 + _ ≤ _; omega) (hb hby hd) (fun _ _ => ⟨rfl, hT, hc, hs⟩)
  dsimp only [Pt.U, Pt.locs, Pt.cells, Pt.slots] at X1 l1 y1 z1 stp hQ
  subst l1 y1 z1
  obtain ⟨U, v', L', a1, rr⟩ := H v T1.heap hQ.1 p e s m args below meth c T1 _ ⟨hx, hZ, hown, hby, hml, hret, hlk, hnm⟩ X1 rfl (N.app hQ.2.1) hQ.2.2
  exact ⟨U, v', L', stp.trans a1, rr⟩
/-- Object.<init> -/
theorem WP.initO {a : Addr} {idx : Nat} (hd : decode B.bytes pc = .ok (.invokespecial idx, 3)) (w1 : (Cond.methodLink B.own idx Lib.objectInit).before a0 Z = true) (w2 : (Cond.instanceMethod Lib.objectInit).before a0 Z = true) (w3 : (Cond.code Lib.objectInit ⟨#[0xb1]⟩ 1 none).before a0 Z = true) (hls : ls.size = B.maxL) (hf : 1 ≤ B.room.frames) (hl : (rest.map fun v => v.category).sum + 12 ≤ B.room.locals) (hp : pc + 3 = pc')
    (H : WP l B Z n0 Q h cs sl pc' ls rest) : WP l B Z n0 Q h cs sl pc ls (.ref a :: rest) := by
  subst hp
  intro p e s m args below meth c T L C X hT N hn
  obtain ⟨hx, hZ, hown, hby, hml, hret, hlk, hnm⟩ := C
  obtain ⟨T1, X1, e1, stp⟩ := Jvm.RoadKit.initO X hx hZ hown w1 w2 w3 hT (g := mkF m pc ls (.ref a :: rest)) rfl (by rw [hml]; exact hls) rfl (hb hby hd) hf (W := (rest.map fun v => v.category).sum) (by show 2 * 0 + _ ≤ _; omega) hl
  obtain ⟨U, v', L', a1, rr⟩ := H p e s m args below meth c T1 _ ⟨hx, hZ, hown, hby, hml, hret, hlk, hnm⟩ X1 e1 N hn
  exact ⟨U, v', L', stp _ a1, rr⟩
/-! arrays: what one holds, place by place -/
def Av (Z : State) (h : Heap) (a : Addr) (ty : FieldType) (vs : List Value) : Prop := ∃ c : Cell, Arr Z h a c ty ∧ c.slots.toList = vs ∧ vs.length < 2 ^ 31
variable {a b : Addr} {ty : FieldType} {vs : List Value} {h' : Heap} {ws : List Addr}
theorem Av.lt (A : Av Z h a ty vs) : a < h.size := by obtain ⟨c, q, -⟩ := A; exact q.lt
theorem Av.keep (A : Av Z h a ty vs) (K : Keep h h' ws) (q : a ∉ ws) : Av Z h' a ty vs := by obtain ⟨c, A, r⟩ := A; exact ⟨c, ⟨K.2.1 a c A.1 q, A.2⟩, r⟩
theorem Av.len (A : Av Z h a ty vs) : vs.length < 2 ^ 31 := by obtain ⟨c, A, r, q⟩ := A; exact q
theorem own_idx {j : Int32} {i : Nat} (hj : j.toInt = (i : Int)) : j.toNatClampNeg = i ∧ ¬ j < 0 := by
  refine ⟨by simp [Int32.toNatClampNeg, hj], fun q => ?_⟩
  rw [Int32.lt_iff_toInt_lt] at q
  have : (0 : Int32).toInt = 0 := rfl
  omega
theorem Av.place {j : Int32} {i : Nat} {v : Value} {c : Cell} (e : c.slots.toList = vs) (hj : j.toInt = (i : Int)) (hv : vs[i]? = some v) : ¬ (j < 0 ∨ c.slots.size ≤ j.toNatClampNeg) ∧ c.slots[j.toNatClampNeg]? = some v := by
  obtain ⟨q1, q2⟩ := own_idx hj
  subst e
  rw [q1]
  have q3 : c.slots[i]? = some v := by simpa using hv
  refine ⟨fun q => q.elim q2 fun q => ?_, q3⟩
  have := (Array.getElem?_eq_some_iff.mp q3).1
  omega
theorem Keep.of_ext (E : Ext h h') : Keep h h' [] := (Keep.refl h []).ext E
theorem Av.set {i : Nat} {v : Value} {sl : Nat} (A : Av Z h a ty vs) (W : Wr h h' a sl v) (e : sl = i) : Av Z h' a ty (vs.set i v) := by
  subst e
  obtain ⟨c, A, r, q⟩ := A
  refine ⟨_, A.same W, ?_, by simpa using q⟩
  simp [Cell.setSlot, r]
theorem WP.newarr {aty : ArrayType} {n : Int32} {k : Nat} (hd : decode B.bytes pc = .ok (.newarray aty, 2)) (w : (Cond.arrayClass (newarray.typeOf aty)).before a0 Z = true) (hn : n.toInt = (k : Int)) (cap : Nat) (hcap : k ≤ cap) (hbig : cap * 8 ≤ 536870912) (hc : cs + 1 ≤ B.room.cells) (hs : sl + cap ≤ B.room.slots) (hp : pc + 2 = pc')
    (H : ∀ b h', b = h.size → n0 ≤ b → Keep h h' [] → Av Z h' b (newarray.typeOf aty) (List.replicate k (defaultValue (newarray.typeOf aty))) → WP l B Z n0 Q h' (cs + 1) (sl + cap) pc' ls (.ref b :: st)) : WP l B Z n0 Q h cs sl pc ls (.int n :: st) := by
  subst hp
  obtain ⟨q1, q2⟩ := own_idx hn
  refine WP.stepT (P := fun h' => Keep h h' [] ∧ n0 ≤ h.size ∧ Av Z h' h.size (newarray.typeOf aty) (List.replicate k (defaultValue (newarray.typeOf aty)))) ?_ (fun h' q => H h.size h' rfl q.2.1 q.1 q.2.2)
  intro p e s m args below meth c T L C X hT N hn'
  obtain ⟨T1, h1, cA, X1, e1, E1, A1, stp⟩ := newP X C.1 C.2.1 w hT (g := mkF m pc ls (.int n :: st)) rfl (hb C.2.2.2.1 hd) rfl q2 (cap := cap) (by omega) hbig hc hs
  refine ⟨T1, h1, L, X1, e1, N, Nat.le_trans hn' E1.1, ⟨Keep.of_ext E1, hn', _, A1, ?_, ?_⟩, stp⟩
  · simp [newA, q1]
  · simp; omega
theorem WP.alen {k : Int32} (hd : decode B.bytes pc = .ok (.arraylength, 1)) (A : Av Z h a ty vs) (hk : k.toInt = (vs.length : Int)) (hp : pc + 1 = pc') (H : WP l B Z n0 Q h cs sl pc' ls (.int k :: st)) : WP l B Z n0 Q h cs sl pc ls (.ref a :: st) := by
  subst hp
  obtain ⟨cl, A, r, q⟩ := A
  have e1 : cl.slots.size.toInt32 = k := by
    have e2 : cl.slots.size = vs.length := by rw [← r]; simp
    apply Int32.toInt_inj.mp
    rw [e2, hk]
    exact Int32.toInt_ofNat_of_lt q
  exact WP.step (fun p e s m args below meth c T L C X hT target k' => X.arraylength C.1 (by rw [hT]; exact A.1) (State.isArrayOf_alike C.2.1.alike A.2.1) (g := mkF m pc ls (.ref a :: st)) rfl rfl (hb C.2.2.2.1 hd) _ (by rw [e1]; exact k')) H
theorem WP.iaload {j : Int32} {x : Int32} (i : Nat) (hd : decode B.bytes pc = .ok (.iaload, 1)) (A : Av Z h a .int vs) (hj : j.toInt = (i : Int)) (hv : vs[i]? = some (.int x)) (hp : pc + 1 = pc') (H : WP l B Z n0 Q h cs sl pc' ls (.int x :: st)) : WP l B Z n0 Q h cs sl pc ls (.int j :: .ref a :: st) := by
  subst hp
  obtain ⟨cl, A, r, q⟩ := A
  obtain ⟨g1, g2⟩ := Av.place r hj hv
  exact WP.step (fun p e s m args below meth c T L C X hT target k' => X.iaload C.1 (by rw [hT]; exact A.1) (State.isArrayOf_alike C.2.1.alike A.2.1) A.2.2 g1 g2 (g := mkF m pc ls (.int j :: .ref a :: st)) rfl rfl (hb C.2.2.2.1 hd) _ k') H
theorem WP.laload {j : Int32} {x : Int64} (i : Nat) (hd : decode B.bytes pc = .ok (.laload, 1)) (A : Av Z h a .long vs) (hj : j.toInt = (i : Int)) (hv : vs[i]? = some (.long x)) (hp : pc + 1 = pc') (H : WP l B Z n0 Q h cs sl pc' ls (.long x :: st)) : WP l B Z n0 Q h cs sl pc ls (.int j :: .ref a :: st) := by
  subst hp
  obtain ⟨cl, A, r, q⟩ := A
  obtain ⟨g1, g2⟩ := Av.place r hj hv
  exact WP.step (fun p e s m args below meth c T L C X hT target k' => X.laload C.1 (by rw [hT]; exact A.1) (State.isArrayOf_alike C.2.1.alike A.2.1) A.2.2 g1 g2 (g := mkF m pc ls (.int j :: .ref a :: st)) rfl rfl (hb C.2.2.2.1 hd) _ k') H
theorem WP.caload {j : Int32} {x : Int32} (i : Nat) (hd : decode B.bytes pc = .ok (.caload, 1)) (A : Av Z h a .char vs) (hj : j.toInt = (i : Int)) (hv : vs[i]? = some (.int x)) (hp : pc + 1 = pc') (H : WP l B Z n0 Q h cs sl pc' ls (.int x :: st)) : WP l B Z n0 Q h cs sl pc ls (.int j :: .ref a :: st) := by
  subst hp
  obtain ⟨cl, A, r, q⟩ := A
  obtain ⟨g1, g2⟩ := Av.place r hj hv
  exact WP.step (fun p e s m args below meth c T L C X hT target k' => X.caload C.1 (by rw [hT]; exact A.1) (State.isArrayOf_alike C.2.1.alike A.2.1) A.2.2 g1 g2 (g := mkF m pc ls (.int j :: .ref a :: st)) rfl rfl (hb C.2.2.2.1 hd) _ k') H
theorem WP.baloadB {j : Int32} {x : Int32} (i : Nat) (hd : decode B.bytes pc = .ok (.baload, 1)) (A : Av Z h a .byte vs) (hj : j.toInt = (i : Int)) (hv : vs[i]? = some (.int x)) (hp : pc + 1 = pc') (H : WP l B Z n0 Q h cs sl pc' ls (.int x :: st)) : WP l B Z n0 Q h cs sl pc ls (.int j :: .ref a :: st) := by
  subst hp
  obtain ⟨cl, A, r, q⟩ := A
  obtain ⟨g1, g2⟩ := Av.place r hj hv
  exact WP.step (fun p e s m args below meth c T L C X hT target k' => X.baloadBytes C.1 (by rw [hT]; exact A.1) (State.isArrayOf_alike C.2.1.alike A.2.1) A.2.2 g1 g2 (g := mkF m pc ls (.int j :: .ref a :: st)) rfl rfl (hb C.2.2.2.1 hd) _ k') H
theorem WP.baloadZ {j : Int32} {x : Int32} (i : Nat) (hd : decode B.bytes pc = .ok (.baload, 1)) (A : Av Z h a .boolean vs) (hj : j.toInt = (i : Int)) (hv : vs[i]? = some (.int x)) (hp : pc + 1 = pc') (H : WP l B Z n0 Q h cs sl pc' ls (.int x :: st)) : WP l B Z n0 Q h cs sl pc ls (.int j :: .ref a :: st) := by
  subst hp
  obtain ⟨cl, A, r, q⟩ := A
  obtain ⟨g1, g2⟩ := Av.place r hj hv
  exact WP.step (fun p e s m args below meth c T L C X hT target k' => X.baloadBooleans C.1 (by rw [hT]; exact A.1) (State.isArrayOf_alike C.2.1.alike A.2.1) A.2.2 g1 g2 (g := mkF m pc ls (.int j :: .ref a :: st)) rfl rfl (hb C.2.2.2.1 hd) _ k') H
theorem WP.aaload {j : Int32} {x : Value} (i : Nat) (hd : decode B.bytes pc = .ok (.aaload, 1)) (A : Av Z h a ty vs) (hty : ty.isReference = true) (hj : j.toInt = (i : Int)) (hv : vs[i]? = some x) (hp : pc + 1 = pc') (H : WP l B Z n0 Q h cs sl pc' ls (x :: st)) : WP l B Z n0 Q h cs sl pc ls (.int j :: .ref a :: st) := by
  subst hp
  obtain ⟨cl, A, r, q⟩ := A
  obtain ⟨g1, g2⟩ := Av.place r hj hv
  exact WP.step (fun p e s m args below meth c T L C X hT target k' => X.aaload C.1 (by rw [hT]; exact A.1) (State.isArrayOf_alike C.2.1.alike A.2.1) hty A.2.2 g1 g2 (g := mkF m pc ls (.int j :: .ref a :: st)) rfl rfl (hb C.2.2.2.1 hd) _ k') H
theorem WP.iastore {j : Int32} {x : Int32} (i : Nat) (hd : decode B.bytes pc = .ok (.iastore, 1)) (A : Av Z h a .int vs) (hj : j.toInt = (i : Int)) (hi : i < vs.length) (ha : n0 ≤ a) (hp : pc + 1 = pc') (H : ∀ h', Keep h h' [a] → Av Z h' a .int (vs.set i (.int x)) → WP l B Z n0 Q h' cs sl pc' ls st) : WP l B Z n0 Q h cs sl pc ls (.int x :: .int j :: .ref a :: st) := by
  subst hp
  obtain ⟨cl, Ar, r, q⟩ := id A
  obtain ⟨g1, -⟩ := Av.place r hj (List.getElem?_eq_getElem hi)
  refine WP.stepT (P := fun h' => Keep h h' [a] ∧ Av Z h' a .int (vs.set i (.int x))) ?_ (fun h' q => H h' q.1 q.2)
  intro p e s m args below meth c T L C X hT N hn'
  obtain ⟨T1, h1, X1, e1, W1, stp⟩ := stI X C.1 C.2.1 hT Ar g1 (g := mkF m pc ls (.int x :: .int j :: .ref a :: st)) rfl rfl (hb C.2.2.2.1 hd)
  exact ⟨T1, h1, _, X1, e1, Fr.snoc X1 N ha, by rw [W1.size]; exact hn', ⟨Keep.of_wr W1, A.set W1 (own_idx hj).1⟩, stp⟩
theorem WP.lastore {j : Int32} {x : Int64} (i : Nat) (hd : decode B.bytes pc = .ok (.lastore, 1)) (A : Av Z h a .long vs) (hj : j.toInt = (i : Int)) (hi : i < vs.length) (ha : n0 ≤ a) (hp : pc + 1 = pc') (H : ∀ h', Keep h h' [a] → Av Z h' a .long (vs.set i (.long x)) → WP l B Z n0 Q h' cs sl pc' ls st) : WP l B Z n0 Q h cs sl pc ls (.long x :: .int j :: .ref a :: st) := by
  subst hp
  obtain ⟨cl, Ar, r, q⟩ := id A
  obtain ⟨g1, -⟩ := Av.place r hj (List.getElem?_eq_getElem hi)
  refine WP.stepT (P := fun h' => Keep h h' [a] ∧ Av Z h' a .long (vs.set i (.long x))) ?_ (fun h' q => H h' q.1 q.2)
  intro p e s m args below meth c T L C X hT N hn'
  obtain ⟨T1, h1, X1, e1, W1, stp⟩ := stJ X C.1 C.2.1 hT Ar g1 (g := mkF m pc ls (.long x :: .int j :: .ref a :: st)) rfl rfl (hb C.2.2.2.1 hd)
  exact ⟨T1, h1, _, X1, e1, Fr.snoc X1 N ha, by rw [W1.size]; exact hn', ⟨Keep.of_wr W1, A.set W1 (own_idx hj).1⟩, stp⟩
theorem WP.castore {j : Int32} {x : Int32} (i : Nat) (hd : decode B.bytes pc = .ok (.castore, 1)) (A : Av Z h a .char vs) (hj : j.toInt = (i : Int)) (hi : i < vs.length) (ha : n0 ≤ a) (hp : pc + 1 = pc') (H : ∀ h', Keep h h' [a] → Av Z h' a .char (vs.set i (.int (nar .char x))) → WP l B Z n0 Q h' cs sl pc' ls st) : WP l B Z n0 Q h cs sl pc ls (.int x :: .int j :: .ref a :: st) := by
  subst hp
  obtain ⟨cl, Ar, r, q⟩ := id A
  obtain ⟨g1, -⟩ := Av.place r hj (List.getElem?_eq_getElem hi)
  refine WP.stepT (P := fun h' => Keep h h' [a] ∧ Av Z h' a .char (vs.set i (.int (nar .char x)))) ?_ (fun h' q => H h' q.1 q.2)
  intro p e s m args below meth c T L C X hT N hn'
  obtain ⟨T1, h1, X1, e1, W1, stp⟩ := stC X C.1 C.2.1 hT Ar g1 (g := mkF m pc ls (.int x :: .int j :: .ref a :: st)) rfl rfl (hb C.2.2.2.1 hd)
  exact ⟨T1, h1, _, X1, e1, Fr.snoc X1 N ha, by rw [W1.size]; exact hn', ⟨Keep.of_wr W1, A.set W1 (own_idx hj).1⟩, stp⟩
theorem WP.bastoreB {j : Int32} {x : Int32} (i : Nat) (hd : decode B.bytes pc = .ok (.bastore, 1)) (A : Av Z h a .byte vs) (hj : j.toInt = (i : Int)) (hi : i < vs.length) (ha : n0 ≤ a) (hp : pc + 1 = pc') (H : ∀ h', Keep h h' [a] → Av Z h' a .byte (vs.set i (.int (nar .byte x))) → WP l B Z n0 Q h' cs sl pc' ls st) : WP l B Z n0 Q h cs sl pc ls (.int x :: .int j :: .ref a :: st) := by
  subst hp
  obtain ⟨cl, Ar, r, q⟩ := id A
  obtain ⟨g1, -⟩ := Av.place r hj (List.getElem?_eq_getElem hi)
  refine WP.stepT (P := fun h' => Keep h h' [a] ∧ Av Z h' a .byte (vs.set i (.int (nar .byte x)))) ?_ (fun h' q => H h' q.1 q.2)
  intro p e s m args below meth c T L C X hT N hn'
  obtain ⟨T1, h1, X1, e1, W1, stp⟩ := stB X C.1 C.2.1 hT Ar g1 (g := mkF m pc ls (.int x :: .int j :: .ref a :: st)) rfl rfl (hb C.2.2.2.1 hd)
  exact ⟨T1, h1, _, X1, e1, Fr.snoc X1 N ha, by rw [W1.size]; exact hn', ⟨Keep.of_wr W1, A.set W1 (own_idx hj).1⟩, stp⟩
theorem WP.bastoreZ {j : Int32} {x : Int32} (i : Nat) (hd : decode B.bytes pc = .ok (.bastore, 1)) (A : Av Z h a .boolean vs) (hj : j.toInt = (i : Int)) (hi : i < vs.length) (ha : n0 ≤ a) (hp : pc + 1 = pc') (H : ∀ h', Keep h h' [a] → Av Z h' a .boolean (vs.set i (.int (nar .boolean x))) → WP l B Z n0 Q h' cs sl pc' ls st) : WP l B Z n0 Q h cs sl pc ls (.int x :: .int j :: .ref a :: st) := by
  subst hp
  obtain ⟨cl, Ar, r, q⟩ := id A
  obtain ⟨g1, -⟩ := Av.place r hj (List.getElem?_eq_getElem hi)
  refine WP.stepT (P := fun h' => Keep h h' [a] ∧ Av Z h' a .boolean (vs.set i (.int (nar .boolean x)))) ?_ (fun h' q => H h' q.1 q.2)
  intro p e s m args below meth c T L C X hT N hn'
  obtain ⟨T1, h1, X1, e1, W1, stp⟩ := stZ X C.1 C.2.1 hT Ar g1 (g := mkF m pc ls (.int x :: .int j :: .ref a :: st)) rfl rfl (hb C.2.2.2.1 hd)
  exact ⟨T1, h1, _, X1, e1, Fr.snoc X1 N ha, by rw [W1.size]; exact hn', ⟨Keep.of_wr W1, A.set W1 (own_idx hj).1⟩, stp⟩
/-! objects: the fields that the sheet lays, in one list -/
abbrev OLay : Type := List (String × String × String)
def Ob (Z : State) (h : Heap) (a : Addr) (C : String) (lay : OLay) (vs : List Value) : Prop := Exa Z h a C ∧ lay.length = vs.length ∧ ∀ (i : Nat) (O n d : String) (v : Value), lay[i]? = some (O, n, d) → vs[i]? = some v → Fld Z h a O n d v
def OLaids (Z : State) (a0 : Array Value) (C : String) (lay : OLay) : Prop := ∀ q ∈ lay, Laid Z a0 C q.1 q.2.1 q.2.2 ∧ ∃ t, parseFieldDescriptor q.2.2 = some t
variable {Cl O n d : String} {lay : OLay} {v : Value}
theorem Ob.lt (A : Ob Z h a Cl lay vs) : a < h.size := A.1.lt
theorem Ob.keep (A : Ob Z h a Cl lay vs) (K : Keep h h' ws) (q : a ∉ ws) : Ob Z h' a Cl lay vs := ⟨A.1.keep K, A.2.1, fun i O n d v h1 h2 => (A.2.2 i O n d v h1 h2).keep K q⟩
theorem Ob.fld (A : Ob Z h a Cl lay vs) (i : Nat) (h1 : lay[i]? = some (O, n, d)) (h2 : vs[i]? = some v) : Fld Z h a O n d v := A.2.2 i O n d v h1 h2
theorem Ob.put {i : Nat} (A : Ob Z h a Cl lay vs) (La : OLaids Z a0 Cl lay) (hnd : (lay.map fun q => q.2.1).Nodup) (h1 : lay[i]? = some (O, n, d)) (W : Wr h h' a (Jvm.RoadKit.slotOf Z O n d) v) : Ob Z h' a Cl lay (vs.set i v) := by
  refine ⟨A.1.wr W, by simpa using A.2.1, fun j O' n' d' v' g1 g2 => ?_⟩
  by_cases e : i = j
  · subst e
    cases h1.symm.trans g1
    have hi : i < vs.length := by rw [← A.2.1]; exact (List.getElem?_eq_some_iff.mp h1).1
    rw [List.getElem?_set_self hi] at g2
    cases g2
    exact (A.fld i h1 (List.getElem?_eq_getElem hi)).same W
  · rw [List.getElem?_set_ne e] at g2
    refine (A.fld j g1 g2).other W (Or.inr ?_)
    obtain ⟨l1, t1, p1⟩ := La _ (List.mem_of_getElem? g1)
    obtain ⟨l2, t2, p2⟩ := La _ (List.mem_of_getElem? h1)
    refine slot_ne l1 l2 (fun q => ?_) p1 p2
    have k1 : (lay.map fun q => q.2.1)[j]? = some n' := by simp [g1]
    have k2 : (lay.map fun q => q.2.1)[i]? = some n := by simp [h1]
    obtain ⟨m1, f1⟩ := List.getElem?_eq_some_iff.mp k1
    obtain ⟨m2, f2⟩ := List.getElem?_eq_some_iff.mp k2
    have pw := List.pairwise_iff_getElem.mp hnd
    rcases Nat.lt_or_gt_of_ne e with c | c
    · exact pw i j m2 m1 c (f2.trans ((show n = n' from q.symm).trans f1.symm))
    · exact pw j i m1 m2 c (f1.trans ((show n' = n from q).trans f2.symm))
theorem WP.getf {idx i : Nat} (hd : decode B.bytes pc = .ok (.getfield idx, 3)) (w : (Cond.fieldLink B.own idx O n d).before a0 Z = true) (A : Ob Z h a Cl lay vs) (h1 : lay[i]? = some (O, n, d)) (h2 : vs[i]? = some v) (hp : pc + 3 = pc') (H : WP l B Z n0 Q h cs sl pc' ls (v :: st)) : WP l B Z n0 Q h cs sl pc ls (.ref a :: st) := by
  subst hp
  intro p e s m args below meth c T L C X hT N hn
  obtain ⟨T1, X1, e1, stp⟩ := getF X C.1 C.2.1 C.2.2.1 (host := "") (Or.inl w) Via.refl hT (A.fld i h1 h2) (g := mkF m pc ls (.ref a :: st)) rfl rfl (hb C.2.2.2.1 hd)
  obtain ⟨U, v', L', a1, rr⟩ := H p e s m args below meth c T1 _ C X1 e1 N hn
  exact ⟨U, v', L', stp _ a1, rr⟩
theorem WP.putf {idx i kk : Nat} {t : FieldType} (hd : decode B.bytes pc = .ok (.putfield idx, 3)) (w : (Cond.fieldLink B.own idx O n d).before a0 Z = true) (A : Ob Z h a Cl lay vs) (La : OLaids Z a0 Cl lay) (hnd : (lay.map fun q => q.2.1).Nodup) (h1 : lay[i]? = some (O, n, d))
    (hL : (Cond.lays Cl O n d).before a0 Z = true ∨ ((Cond.laysFinal Cl O n d).before a0 Z = true ∧ B.own = O ∧ B.mname = "<init>")) (wi : (Cond.instantiable Cl kk).before a0 Z = true) (ht : parseFieldDescriptor d = some t) (hnw : narrow t v = v) (hf : fits t v = true) (ha : n0 ≤ a) (hp : pc + 3 = pc')
    (H : ∀ h', Keep h h' [a] → Ob Z h' a Cl lay (vs.set i v) → WP l B Z n0 Q h' cs sl pc' ls st) : WP l B Z n0 Q h cs sl pc ls (v :: .ref a :: st) := by
  subst hp
  have hi : i < vs.length := by rw [← A.2.1]; exact (List.getElem?_eq_some_iff.mp h1).1
  refine WP.stepT (P := fun h' => Keep h h' [a] ∧ Ob Z h' a Cl lay (vs.set i v)) ?_ (fun h' q => H h' q.1 q.2)
  intro p e s m args below meth c T L C X hT N hn'
  obtain ⟨T1, h2, X1, e1, W1, stp⟩ := putF X C.1 C.2.1 C.2.2.1 (host := "") (Or.inl w) Via.refl hT (A.fld i h1 (List.getElem?_eq_getElem hi)) A.1 (hL.imp id fun q => ⟨q.1, q.2.1, C.2.2.2.2.2.2.2.trans q.2.2⟩) wi ht hnw hf (g := mkF m pc ls (v :: .ref a :: st)) rfl rfl (hb C.2.2.2.1 hd)
  exact ⟨T1, h2, _, X1, e1, Fr.snoc X1 N ha, by rw [W1.size]; exact hn', ⟨Keep.of_wr W1, A.put La hnd h1 W1⟩, stp⟩
theorem WP.newobj {idx k : Nat} (hd : decode B.bytes pc = .ok (.new idx, 3)) (w : (Cond.classLink B.own idx Cl).before a0 Z = true) (wi : (Cond.instantiable Cl k).before a0 Z = true) (wz : (Cond.initialized Cl).before a0 Z = true) (La : OLaids Z a0 Cl lay) (hvs : lay.map (fun q => (parseFieldDescriptor q.2.2).map defaultValue) = vs.map some) (hc : cs + 1 ≤ B.room.cells) (hs : sl + k ≤ B.room.slots) (hp : pc + 3 = pc')
    (H : ∀ b h', b = h.size → n0 ≤ b → Keep h h' [] → Ob Z h' b Cl lay vs → WP l B Z n0 Q h' (cs + 1) (sl + k) pc' ls (.ref b :: st)) : WP l B Z n0 Q h cs sl pc ls st := by
  subst hp
  refine WP.stepT (P := fun h' => Keep h h' [] ∧ n0 ≤ h.size ∧ Ob Z h' h.size Cl lay vs) ?_ (fun h' q => H h.size h' rfl q.2.1 q.1 q.2.2)
  intro p e s m args below meth c T L C X hT N hn'
  obtain ⟨T1, h1, X1, e1, E1, A1, D1, -, stp⟩ := newO X C.1 C.2.1 C.2.2.1 w wi wz hT (g := mkF m pc ls st) rfl (hb C.2.2.2.1 hd) hc hs
  refine ⟨T1, h1, L, X1, e1, N, Nat.le_trans hn' E1.1, ⟨Keep.of_ext E1, hn', A1, by simpa using congrArg List.length hvs, fun i O n d v g1 g2 => ?_⟩, stp⟩
  obtain ⟨l1, t1, p1⟩ := La _ (List.mem_of_getElem? g1)
  have k1 := congrArg (fun z => z[i]?) hvs
  simp only [List.getElem?_map, g1, g2, Option.map_some] at k1
  rw [show parseFieldDescriptor d = some t1 from p1] at k1
  simp only [Option.map_some, Option.some.injEq] at k1
  rw [← k1]
  exact D1 l1 p1
end W
end Jvm.OwnWP
namespace Jvm.OwnWP
open Sem ClassFile Op Lib Jvm.RoadKit
theorem own_r32 (x : Int32) : -2147483648 ≤ x.toInt ∧ x.toInt < 2147483648 := ⟨x.le_toInt, x.toInt_lt⟩
theorem own_r64 (x : Int64) : -9223372036854775808 ≤ x.toInt ∧ x.toInt < 9223372036854775808 := ⟨x.le_toInt, x.toInt_lt⟩
theorem own_iadd {x y : Int32} (h1 : -2147483648 ≤ x.toInt + y.toInt) (h2 : x.toInt + y.toInt < 2147483648) : (x + y).toInt = x.toInt + y.toInt := by have := c_iadd x y; have := own_r32 (x + y); omega
theorem own_isub {x y : Int32} (h1 : -2147483648 ≤ x.toInt - y.toInt) (h2 : x.toInt - y.toInt < 2147483648) : (x - y).toInt = x.toInt - y.toInt := by have := c_isub x y; have := own_r32 (x - y); omega
theorem own_ladd {x y : Int64} (h1 : -9223372036854775808 ≤ x.toInt + y.toInt) (h2 : x.toInt + y.toInt < 9223372036854775808) : (x + y).toInt = x.toInt + y.toInt := by have := c_ladd x y; have := own_r64 (x + y); omega
theorem own_lsub {x y : Int64} (h1 : -9223372036854775808 ≤ x.toInt - y.toInt) (h2 : x.toInt - y.toInt < 9223372036854775808) : (x - y).toInt = x.toInt - y.toInt := by have := c_lsub x y; have := own_r64 (x - y); omega
theorem own_mask (x m : Int32) (k : Nat) (P : Int) (hk : k ≤ 31) (hm : m.toBitVec.toNat = 2 ^ k - 1) (hP : ((2 ^ k : Nat) : Int) = P) : (x &&& m).toInt = x.toInt % P := by rw [← hP]; exact c_mask x m k hk hm
theorem own_maskL (x m : Int64) (k : Nat) (P : Int) (hk : k ≤ 63) (hm : m.toBitVec.toNat = 2 ^ k - 1) (hP : ((2 ^ k : Nat) : Int) = P) : (x &&& m).toInt = x.toInt % P := by rw [← hP]; exact c_maskL x m k hk hm
theorem own_irem {x y : Int32} {d : Int} (hy : y.toInt = d) (h0 : 0 ≤ x.toInt) : (x % y).toInt = x.toInt % d := (c_irem x y d hy).1 h0
theorem own_ushr (x q : Int32) (k : Nat) (P : Int) (hk : q.toBitVec.toNat % 32 = k) (h0 : 0 < k) (hP : ((2 ^ k : Nat) : Int) = P) : (ushr x q).toInt = (x.toInt % 4294967296) / P := by rw [← hP]; exact c_iushr x q k hk h0
theorem own_ishr (x q : Int32) (k : Nat) (P : Int) (hk : q.toBitVec.toNat % 32 = k) (hP : ((2 ^ k : Nat) : Int) = P) : (x >>> (q &&& 31)).toInt = x.toInt / P := by rw [← hP]; exact c_ishr x q k hk
theorem own_nar1 : nar .boolean 1 = 1 := by decide
theorem own_nar0 : nar .boolean 0 = 0 := by decide
theorem own_q1 : (some (Value.int (nar .boolean 1))) = some (Value.int 1) := congrArg (fun z => some (Value.int z)) own_nar1
theorem own_q0 : (some (Value.int (nar .boolean 0))) = some (Value.int 0) := congrArg (fun z => some (Value.int z)) own_nar0
theorem own_e32 {x y : Int32} (h : x.toInt = y.toInt) : x = y := Int32.toInt_inj.mp h
theorem own_e64 {x y : Int64} (h : x.toInt = y.toInt) : x = y := Int64.toInt_inj.mp h
end Jvm.OwnWP
namespace Jvm.OwnWP
theorem own_getI (xs : List Int32) (i : Nat) (h : i < xs.length) : ∃ y, (xs.map Value.int)[i]? = some (Value.int y) := ⟨xs[i], by simp [h]⟩
theorem own_getJ (xs : List Int64) (i : Nat) (h : i < xs.length) : ∃ y, (xs.map Value.long)[i]? = some (Value.long y) := ⟨xs[i], by simp [h]⟩
end Jvm.OwnWP
namespace Jvm.OwnWP
theorem own_nil {a : Addr} : a ∉ ([] : List Addr) := nofun
theorem own_cons {a b : Addr} {ws : List Addr} (h : a ≠ b) (h' : a ∉ ws) : a ∉ b :: ws := fun q => (List.mem_cons.mp q).elim h h'
end Jvm.OwnWP
namespace Jvm.OwnWP
theorem own_all0 {P : Addr → Prop} : ∀ x ∈ ([] : List Addr), P x := fun _ q => nomatch q
theorem own_all {P : Addr → Prop} {a : Addr} {ws : List Addr} (h : P a) (h' : ∀ x ∈ ws, P x) : ∀ x ∈ a :: ws, P x := fun x q => (List.mem_cons.mp q).elim (fun e => e ▸ h) (h' x)
end Jvm.OwnWP
namespace Jvm.OwnWP
open Sem ClassFile Op Lib Jvm.Stand Jvm.Free Jvm.LawKit Jvm.RoadKit
def own_fill : List Value → List Slot
  | [] => []
  | v :: r => if v.category = 2 then .val v :: .second :: own_fill r else .val v :: own_fill r
def own_push (acc : Array Slot) (v : Value) : Array Slot := if v.category = 2 then (acc.push (Slot.val v)).push Slot.second else acc.push (Slot.val v)
theorem own_fold (as : List Value) (acc : Array Slot) : as.foldl own_push acc = acc ++ (own_fill as).toArray := by
  induction as generalizing acc with
  | nil => simp [own_fill]
  | cons v r ih =>
    simp only [List.foldl_cons, own_fill]
    rw [ih]
    unfold own_push
    split <;> simp
theorem own_entry {m : MethodId} {as : List Value} {n : Nat} {fs : List Slot} (k : Nat) (h1 : own_fill as = fs) (h2 : fs.length + k = n) : entryFrame m as.toArray n = mkF m 0 (fs ++ List.replicate k Slot.unset).toArray [] := by
  subst h1 h2
  have e0 : as.toArray.foldl own_push #[] = (own_fill as).toArray := by
    simp only [List.size_toArray, List.foldl_toArray']
    rw [own_fold]; simp
  have e : argsToLocals as.toArray ((own_fill as).length + k) = (own_fill as ++ List.replicate k Slot.unset).toArray := by
    show as.toArray.foldl own_push #[] ++ Array.replicate ((own_fill as).length + k - (as.toArray.foldl own_push #[]).size) Slot.unset = _
    rw [e0]
    simp
  show ({ method := m, pc := 0, locals := argsToLocals as.toArray ((own_fill as).length + k), stack := [], locked := none } : JFrame) = _
  rw [e]
end Jvm.OwnWP
namespace Jvm.OwnWP
theorem own_nz {y : Int32} (h : y.toInt ≠ 0) : y ≠ 0 := fun q => h (by rw [q]; rfl)
theorem own_nzL {y : Int64} (h : y.toInt ≠ 0) : y ≠ 0 := fun q => h (by rw [q]; rfl)
end Jvm.OwnWP
namespace Jvm.OwnWP
open Sem ClassFile Op Lib Jvm.Stand Jvm.Free Jvm.LawKit Jvm.RoadKit
section W
variable {l : Launch} {B : Bod} {Z : State} {n0 : Nat} {Q : Option Value → Heap → Prop} {h : Heap} {cs sl pc pc' : Nat} {ls ls' : Array Slot} {st rest : List Value} {a0 : Array Value}
/-- a private method by invokevirtual; that its class is no interface is read off another 'selects' word of that class -/
theorem WP.callP {y y0 : MethodName} {By : Bod} {Cl : String} {as : List Value} {a : Addr} {idx : Nat} {Qy : Option Value → Heap → Prop} {ps : List FieldType} {r : Option FieldType}
    (hd : decode B.bytes pc = .ok (.invokevirtual idx, 3)) (w1 : (Cond.methodLink B.own idx y).before a0 Z = true) (w2 : (Cond.instanceMethod y).before a0 Z = true) (w5 : (Cond.privateMethod y).before a0 Z = true) (w6 : (Cond.selects Cl y0 y0).before a0 Z = true) (w3 : (Cond.initialized y.cls).before a0 Z = true) (w4 : (Cond.code y By.bytes By.maxL By.ret).before a0 Z = true) (hcl : y0.cls = y.cls)
    (hy : y.cls ≠ "java/lang/invoke/MethodHandle" ∧ y.cls ≠ "java/lang/invoke/VarHandle") {Ce : String} (E : Exa Z h a Ce) (hM : OMet l y By Z n0 (.ref a :: as).toArray h Qy) (hpd : parseMethodDescriptor y.desc = some ⟨ps, r⟩) (hlen : as.length = ps.length) (hst : st = as.reverse ++ .ref a :: rest) (hls : ls.size = B.maxL)
    (hfr : By.room.frames + 1 ≤ B.room.frames) (hlo : (rest.map fun v => v.category).sum + (By.maxL + 11) + By.room.locals ≤ B.room.locals) (hc : cs + By.room.cells ≤ B.room.cells) (hs : sl + By.room.slots ≤ B.room.slots) (hp : pc + 3 = pc')
    (H : ∀ v h', Qy v h' → WP l B Z n0 Q h' (cs + By.room.cells) (sl + By.room.slots) pc' ls (v.toList ++ rest)) : WP l B Z n0 Q h cs sl pc ls st := by
  subst hp
  intro p e s m args below meth c T L C X hT N hn
  obtain ⟨hx, hZ, hown, hby, hml, hret, hlk, hnm⟩ := C
  obtain ⟨cq, q1, q2⟩ := E.cell
  have hpr : s.PrivateAt y := Cond.privateMethod_at (mvP hZ w5 (args := #[]))
  have hsel : (Cond.selects y.cls y y).before args s = true := by
    obtain ⟨c2, r2, m2, -, -, q3, -, kP, hkP, hkPi⟩ := Cond.selects_spec (mvT (args := args) hZ w6)
    have hc2 := findClass_of_methodNamed q3
    rw [hcl] at hc2
    exact selects_self_of_private hc2 hkP hkPi hpr (mvT hZ w2) hy
  obtain ⟨v, _, ⟨T1, L1, k1, n1⟩, -, X1, ⟨Lc, hQ, l1, y1, z1⟩, stp⟩ := X.privateBack hx (y := y) hown (mvT hZ w1) (mvT hZ w2) hsel hpr (mvT hZ w4) hy (backOf (W := (rest.map fun v => v.category).sum) (Q := fun v h' L => Qy v h' ∧ Fr n0 L ∧ n0 ≤ h'.size) (hM hn []) hZ w4 w3 hfr hlo) (g := mkF m pc ls st) rfl (by rw [hml]; exact hls) (Steps.refl _) (a := a) (cell := cq) (by rw [hT]; exact q1) q2 (argsL := as) (rest := rest) (lenOf hpd hlen) hst (by show 2 * 0 + _ ≤ _; omega) (hb hby hd) (fun _ _ => ⟨rfl, hT, hc, hs⟩)
  dsimp only [Pt.U, Pt.locs, Pt.cells, Pt.slots] at X1 l1 y1 z1 stp hQ
  subst l1 y1 z1
  obtain ⟨U, v', L', a1, rr⟩ := H v T1.heap hQ.1 p e s m args below meth c T1 _ ⟨hx, hZ, hown, hby, hml, hret, hlk, hnm⟩ X1 rfl (N.app hQ.2.1) hQ.2.2
  exact ⟨U, v', L', stp.trans a1, rr⟩
end W
end Jvm.OwnWP
namespace Jvm.OwnWP
open Sem ClassFile Op Lib Jvm.Stand Jvm.Free Jvm.LawKit Jvm.RoadKit
section W
variable {l : Launch} {B : Bod} {Z : State} {n0 : Nat} {Q : Option Value → Heap → Prop} {h : Heap} {cs sl pc pc' : Nat} {ls ls' : Array Slot} {st rest : List Value} {a0 : Array Value} {a b : Addr} {ty : FieldType} {vs us : List Value}
/-- System.arraycopy of a primitive array's stretch -/
theorem WP.acopy {idx : Nat} {x y n : Int32} (i j k : Nat) (hd : decode B.bytes pc = .ok (.invokestatic idx, 3)) (w1 : (Cond.methodLink B.own idx acN).before a0 Z = true) (w2 : (Cond.native acN).before a0 Z = true) (w3 : (Cond.static acN).before a0 Z = true) (w4 : (Cond.initialized "java/lang/System").before a0 Z = true)
    (A : Av Z h a ty vs) (D : Av Z h b ty us) (hty : ty.isReference = false) (hx : x.toInt = (i : Int)) (hy : y.toInt = (j : Int)) (hn : n.toInt = (k : Int)) (h1 : i + k ≤ vs.length) (h2 : j + k ≤ us.length) (hfit : ∀ (q : Nat) (v : Value), vs[q]? = some v → fits ty v = true) (hbb : n0 ≤ b) (hls : ls.size = B.maxL) (hf : 1 ≤ B.room.frames)
    (hlo : (rest.map fun v => v.category).sum + (nativeFrameWords "java/lang/System" "arraycopy" 5 + 11) ≤ B.room.locals) (hp : pc + 3 = pc')
    (H : ∀ h' us', Keep h h' [b] → Av Z h' b ty us' → us'.length = us.length → (∀ q, us'[q]? = if j ≤ q ∧ q < j + k then vs[i + (q - j)]? else us[q]?) → WP l B Z n0 Q h' cs sl pc' ls rest) : WP l B Z n0 Q h cs sl pc ls (.int n :: .int y :: .ref b :: .int x :: .ref a :: rest) := by
  subst hp
  obtain ⟨ca, Aa, ra, qa⟩ := A
  obtain ⟨cb, Ab, rb, qb⟩ := id D
  obtain ⟨x1, x2⟩ := own_idx hx
  obtain ⟨y1, y2⟩ := own_idx hy
  obtain ⟨n1, n2⟩ := own_idx hn
  have sa : ca.slots.size = vs.length := by rw [← ra]; simp
  have sb : cb.slots.size = us.length := by rw [← rb]; simp
  have hrk : refKind ty = false := by cases ty <;> first | rfl | (simp [FieldType.isReference] at hty)
  have hget : ∀ q, q < k → ∃ v, vs[i + q]? = some v ∧ ca.slots.getD (i + q) .null = v := fun q hq => by
    have hlt : i + q < vs.length := by omega
    refine ⟨vs[i + q], List.getElem?_eq_getElem hlt, ?_⟩
    subst ra
    have hlt' : i + q < ca.slots.size := by simpa using hlt
    simp [Array.getD, hlt']
  have hstr : ca.stretch i k = (vs.drop i).take k := by
    apply List.ext_getElem?
    intro q
    simp only [Cell.stretch, List.getElem?_map, List.getElem?_take, List.getElem?_drop]
    by_cases hq : q < k
    · obtain ⟨v, e1, e2⟩ := hget q hq
      rw [if_pos hq, e1]
      simp only [List.getElem?_range hq, Option.map_some]
      rw [e2]
    · rw [if_neg hq]
      simp [Nat.not_lt.mp hq]
  have hlen : (ca.stretch i k).length = k := by simp [Cell.stretch]
  refine WP.stepT (cs' := cs) (sl' := sl) (P := fun h' => Keep h h' [b] ∧ ∃ us', Av Z h' b ty us' ∧ us'.length = us.length ∧ ∀ q, us'[q]? = if j ≤ q ∧ q < j + k then vs[i + (q - j)]? else us[q]?) ?_ (fun h' q => by obtain ⟨q1, us', q2, q3, q4⟩ := q; exact H h' us' q1 q2 q3 q4)
  intro p e s m args below meth c T L C X hT N hn'
  obtain ⟨-, ka, ca1, compa, ka2⟩ := State.isArrayOf_alike C.2.1.alike Aa.2.1
  obtain ⟨-, kb, cb1, compb, kb2⟩ := State.isArrayOf_alike C.2.1.alike Ab.2.1
  have nsa : ∀ q, ca.vm ≠ .statics q := fun q e => by have := Arr.plain Aa; rw [e] at this; cases this
  have nsb : ∀ q, cb.vm ≠ .statics q := fun q e => by have := Arr.plain Ab; rw [e] at this; cases this
  obtain ⟨vm1, -, X1, stp⟩ := X.arraycopyK C.1 C.2.2.1 (mvT C.2.1 w1) (mvT C.2.1 w2) (mvT C.2.1 w3) (mvT C.2.1 w4) (src := a) (dst := b) (srcPos := x) (destPos := y) (n := n) (cs := ca) (cd := cb) (by rw [hT]; exact Aa.1) (by rw [hT]; exact Ab.1) nsa nsb Aa.2.2 Ab.2.2 ca1 cb1 ka2 kb2 (by simp [hrk]) x2 y2 n2 (by rw [sa]; omega) (by rw [sb]; omega)
    (fun vm1 _ q hq => by
      rw [n1] at hq
      obtain ⟨v, e1, e2⟩ := hget q hq
      rw [x1, e2]
      have hf := hfit _ _ e1
      refine ⟨hf, ?_⟩
      cases v with
      | ref z => cases ty <;> first | (simp [fits] at hf; done) | (simp [FieldType.isReference] at hty; done)
      | _ => trivial)
    (g := mkF m pc ls (.int n :: .int y :: .ref b :: .int x :: .ref a :: rest)) rfl (by rw [C.2.2.2.2.1]; exact hls) rfl (hb C.2.2.2.1 hd) hf (by show 2 * 0 + _ + _ ≤ _; omega)
  have hlt : b < h.size := D.lt
  have eh : ((T.setVm vm1).setCell b (copied ca cb x y n)).heap = h.setIfInBounds b (copied ca cb x y n) := by rw [← hT]; rfl
  have fc := cb.storeRun_facts y.toNatClampNeg (ca.stretch x.toNatClampNeg n.toNatClampNeg)
  refine ⟨_, _, _, X1, eh, N.app (fun z hz => by rw [copyLocs_base hz]; exact hbb), by simpa using hn', ⟨⟨by simp, fun z cz hz hzn => ?_, fun z cz hz => ?_⟩, (copied ca cb x y n).slots.toList, ⟨_, ⟨by simp [hlt], ?_, ?_⟩, rfl, ?_⟩, ?_, fun q => ?_⟩, stp⟩
  · rw [Array.getElem?_setIfInBounds_ne (fun e => hzn (by simp [e]))]; exact hz
  · by_cases e : b = z
    · subst e
      cases Ab.1.symm.trans hz
      exact ⟨_, by simp [hlt], fc.1, fc.2.1, fc.2.2.1⟩
    · exact ⟨cz, by rw [Array.getElem?_setIfInBounds_ne e]; exact hz, rfl, rfl, rfl⟩
  · obtain ⟨q1, k, q2, q3⟩ := Ab.2.1
    exact ⟨by rw [show (copied ca cb x y n).vm = cb.vm from fc.2.1]; exact q1, k, by rw [show (copied ca cb x y n).cls = cb.cls from fc.1]; exact q2, q3⟩
  · rw [show (copied ca cb x y n).vm = cb.vm from fc.2.1]; exact Ab.2.2
  · have : (copied ca cb x y n).slots.size = cb.slots.size := fc.2.2.1
    simp only [Array.length_toList]; rw [this, sb]; exact qb
  · have : (copied ca cb x y n).slots.size = cb.slots.size := fc.2.2.1
    simp only [Array.length_toList]; rw [this, sb]
  · have g := Cell.storeRun_get cb j (ca.stretch i k) q (by rw [hlen, sb]; exact h2)
    rw [hlen] at g
    have e0 : (copied ca cb x y n) = cb.storeRun j (ca.stretch i k) := by show cb.storeRun y.toNatClampNeg (ca.stretch x.toNatClampNeg n.toNatClampNeg) = _; rw [x1, y1, n1]
    rw [e0, Array.getElem?_toList, g, hstr]
    by_cases hq : j ≤ q ∧ q < j + k
    · rw [if_pos hq, if_pos hq]
      simp only [List.getElem?_take, List.getElem?_drop]
      rw [if_pos (by omega)]
    · rw [if_neg hq, if_neg hq, ← rb]; simp
end W
end Jvm.OwnWP


namespace Jvm.Pilot.@@N@@
open Jvm Jvm.ClassFile Sem Op Lib Jvm.Free Jvm.Stand Jvm.LawKit Jvm.RoadKit Jvm.OwnWP Bundle Jvm.Pilot.@@N@@.Jvm.D

abbrev HW (Z : State) (a0 : Array Value) : Prop := ∀ d ∈ tables_1, d.before a0 Z = true
theorem w0 {Z : State} {a0 : Array Value} (hw : HW Z a0) : ((Jvm.Cond.constant "com/example/stampwise/stampwise/history/IntGroupsPlacePinLaw" (7 : Nat) (2147483647 : Int32))).before a0 Z = true := hw _ (List.mem_of_getElem? (i := 0) rfl)
theorem w1 {Z : State} {a0 : Array Value} (hw : HW Z a0) : ((Jvm.Cond.arrayClass Jvm.ClassFile.FieldType.int)).before a0 Z = true := hw _ (List.mem_of_getElem? (i := 1) rfl)
theorem w2 {Z : State} {a0 : Array Value} (hw : HW Z a0) : ((Jvm.Cond.methodLink "com/example/stampwise/stampwise/history/IntGroupsPlacePinLaw" (8 : Nat) ({ cls := "com/example/stampwise/stampwise/history/IntGroupsPlacePinLaw", name := "below", desc := "(IIII)I" } : Jvm.MethodName))).before a0 Z = true := hw _ (List.mem_of_getElem? (i := 2) rfl)
theorem w3 {Z : State} {a0 : Array Value} (hw : HW Z a0) : ((Jvm.Cond.static ({ cls := "com/example/stampwise/stampwise/history/IntGroupsPlacePinLaw", name := "below", desc := "(IIII)I" } : Jvm.MethodName))).before a0 Z = true := hw _ (List.mem_of_getElem? (i := 3) rfl)
theorem w4 {Z : State} {a0 : Array Value} (hw : HW Z a0) : ((Jvm.Cond.initialized "com/example/stampwise/stampwise/history/IntGroupsPlacePinLaw")).before a0 Z = true := hw _ (List.mem_of_getElem? (i := 4) rfl)
theorem w5 {Z : State} {a0 : Array Value} (hw : HW Z a0) : ((Jvm.Cond.code ({ cls := "com/example/stampwise/stampwise/history/IntGroupsPlacePinLaw", name := "below", desc := "(IIII)I" } : Jvm.MethodName) method_2_code (4 : Nat) (Option.some Jvm.ClassFile.FieldType.int))).before a0 Z = true := hw _ (List.mem_of_getElem? (i := 5) rfl)
theorem w6 {Z : State} {a0 : Array Value} (hw : HW Z a0) : ((Jvm.Cond.methodLink "com/example/stampwise/stampwise/history/IntGroupsPlacePinLaw" (14 : Nat) ({ cls := "com/example/stampwise/stampwise/history/IntGroupsPlacePinLaw", name := "same", desc := "(II)I" } : Jvm.MethodName))).before a0 Z = true := hw _ (List.mem_of_getElem? (i := 6) rfl)
theorem w7 {Z : State} {a0 : Array Value} (hw : HW Z a0) : ((Jvm.Cond.static ({ cls := "com/example/stampwise/stampwise/history/IntGroupsPlacePinLaw", name := "same", desc := "(II)I" } : Jvm.MethodName))).before a0 Z = true := hw _ (List.mem_of_getElem? (i := 7) rfl)
theorem w8 {Z : State} {a0 : Array Value} (hw : HW Z a0) : ((Jvm.Cond.code ({ cls := "com/example/stampwise/stampwise/history/IntGroupsPlacePinLaw", name := "same", desc := "(II)I" } : Jvm.MethodName) method_3_code (2 : Nat) (Option.some Jvm.ClassFile.FieldType.int))).before a0 Z = true := hw _ (List.mem_of_getElem? (i := 8) rfl)
theorem w9 {Z : State} {a0 : Array Value} (hw : HW Z a0) : ((Jvm.Cond.classLink "com/example/stampwise/stampwise/history/IntGroupsPlacePinLaw" (18 : Nat) "com/example/stampwise/stampwise/history/IntGroups")).before a0 Z = true := hw _ (List.mem_of_getElem? (i := 9) rfl)
theorem w10 {Z : State} {a0 : Array Value} (hw : HW Z a0) : ((Jvm.Cond.instantiable "com/example/stampwise/stampwise/history/IntGroups" (2 : Nat))).before a0 Z = true := hw _ (List.mem_of_getElem? (i := 10) rfl)
theorem w11 {Z : State} {a0 : Array Value} (hw : HW Z a0) : ((Jvm.Cond.initialized "com/example/stampwise/stampwise/history/IntGroups")).before a0 Z = true := hw _ (List.mem_of_getElem? (i := 11) rfl)
theorem w12 {Z : State} {a0 : Array Value} (hw : HW Z a0) : ((Jvm.Cond.methodLink "com/example/stampwise/stampwise/history/IntGroupsPlacePinLaw" (20 : Nat) ({ cls := "com/example/stampwise/stampwise/history/IntGroups", name := "<init>", desc := "(I)V" } : Jvm.MethodName))).before a0 Z = true := hw _ (List.mem_of_getElem? (i := 12) rfl)
theorem w13 {Z : State} {a0 : Array Value} (hw : HW Z a0) : ((Jvm.Cond.instanceMethod ({ cls := "com/example/stampwise/stampwise/history/IntGroups", name := "<init>", desc := "(I)V" } : Jvm.MethodName))).before a0 Z = true := hw _ (List.mem_of_getElem? (i := 13) rfl)
theorem w14 {Z : State} {a0 : Array Value} (hw : HW Z a0) : ((Jvm.Cond.code ({ cls := "com/example/stampwise/stampwise/history/IntGroups", name := "<init>", desc := "(I)V" } : Jvm.MethodName) prog_113_method_1_code (2 : Nat) (Option.none : Option Jvm.ClassFile.FieldType))).before a0 Z = true := hw _ (List.mem_of_getElem? (i := 14) rfl)
theorem w15 {Z : State} {a0 : Array Value} (hw : HW Z a0) : ((Jvm.Cond.methodLink "com/example/stampwise/stampwise/history/IntGroups" (1 : Nat) ({ cls := "java/lang/Object", name := "<init>", desc := "()V" } : Jvm.MethodName))).before a0 Z = true := hw _ (List.mem_of_getElem? (i := 15) rfl)
theorem w16 {Z : State} {a0 : Array Value} (hw : HW Z a0) : ((Jvm.Cond.instanceMethod ({ cls := "java/lang/Object", name := "<init>", desc := "()V" } : Jvm.MethodName))).before a0 Z = true := hw _ (List.mem_of_getElem? (i := 16) rfl)
theorem w17 {Z : State} {a0 : Array Value} (hw : HW Z a0) : ((Jvm.Cond.code ({ cls := "java/lang/Object", name := "<init>", desc := "()V" } : Jvm.MethodName) object_method_1_code (1 : Nat) (Option.none : Option Jvm.ClassFile.FieldType))).before a0 Z = true := hw _ (List.mem_of_getElem? (i := 17) rfl)
theorem w18 {Z : State} {a0 : Array Value} (hw : HW Z a0) : ((Jvm.Cond.fieldLink "com/example/stampwise/stampwise/history/IntGroups" (7 : Nat) "com/example/stampwise/stampwise/history/IntGroups" "starts" "[I")).before a0 Z = true := hw _ (List.mem_of_getElem? (i := 18) rfl)
theorem w19 {Z : State} {a0 : Array Value} (hw : HW Z a0) : ((Jvm.Cond.laysFinal "com/example/stampwise/stampwise/history/IntGroups" "com/example/stampwise/stampwise/history/IntGroups" "starts" "[I")).before a0 Z = true := hw _ (List.mem_of_getElem? (i := 19) rfl)
theorem w20 {Z : State} {a0 : Array Value} (hw : HW Z a0) : ((Jvm.Cond.methodLink "com/example/stampwise/stampwise/history/IntGroupsPlacePinLaw" (23 : Nat) ({ cls := "com/example/stampwise/stampwise/history/IntGroups", name := "count", desc := "(I)V" } : Jvm.MethodName))).before a0 Z = true := hw _ (List.mem_of_getElem? (i := 20) rfl)
theorem w21 {Z : State} {a0 : Array Value} (hw : HW Z a0) : ((Jvm.Cond.declares ({ cls := "com/example/stampwise/stampwise/history/IntGroups", name := "count", desc := "(I)V" } : Jvm.MethodName))).before a0 Z = true := hw _ (List.mem_of_getElem? (i := 21) rfl)
theorem w22 {Z : State} {a0 : Array Value} (hw : HW Z a0) : ((Jvm.Cond.instanceMethod ({ cls := "com/example/stampwise/stampwise/history/IntGroups", name := "count", desc := "(I)V" } : Jvm.MethodName))).before a0 Z = true := hw _ (List.mem_of_getElem? (i := 22) rfl)
theorem w23 {Z : State} {a0 : Array Value} (hw : HW Z a0) : ((Jvm.Cond.selects "com/example/stampwise/stampwise/history/IntGroups" ({ cls := "com/example/stampwise/stampwise/history/IntGroups", name := "count", desc := "(I)V" } : Jvm.MethodName) ({ cls := "com/example/stampwise/stampwise/history/IntGroups", name := "count", desc := "(I)V" } : Jvm.MethodName))).before a0 Z = true := hw _ (List.mem_of_getElem? (i := 23) rfl)
theorem w24 {Z : State} {a0 : Array Value} (hw : HW Z a0) : ((Jvm.Cond.code ({ cls := "com/example/stampwise/stampwise/history/IntGroups", name := "count", desc := "(I)V" } : Jvm.MethodName) prog_113_method_2_code (2 : Nat) (Option.none : Option Jvm.ClassFile.FieldType))).before a0 Z = true := hw _ (List.mem_of_getElem? (i := 24) rfl)
theorem w25 {Z : State} {a0 : Array Value} (hw : HW Z a0) : ((Jvm.Cond.methodLink "com/example/stampwise/stampwise/history/IntGroupsPlacePinLaw" (26 : Nat) ({ cls := "com/example/stampwise/stampwise/history/IntGroups", name := "startPlacing", desc := "()V" } : Jvm.MethodName))).before a0 Z = true := hw _ (List.mem_of_getElem? (i := 25) rfl)
theorem w26 {Z : State} {a0 : Array Value} (hw : HW Z a0) : ((Jvm.Cond.declares ({ cls := "com/example/stampwise/stampwise/history/IntGroups", name := "startPlacing", desc := "()V" } : Jvm.MethodName))).before a0 Z = true := hw _ (List.mem_of_getElem? (i := 26) rfl)
theorem w27 {Z : State} {a0 : Array Value} (hw : HW Z a0) : ((Jvm.Cond.instanceMethod ({ cls := "com/example/stampwise/stampwise/history/IntGroups", name := "startPlacing", desc := "()V" } : Jvm.MethodName))).before a0 Z = true := hw _ (List.mem_of_getElem? (i := 27) rfl)
theorem w28 {Z : State} {a0 : Array Value} (hw : HW Z a0) : ((Jvm.Cond.selects "com/example/stampwise/stampwise/history/IntGroups" ({ cls := "com/example/stampwise/stampwise/history/IntGroups", name := "startPlacing", desc := "()V" } : Jvm.MethodName) ({ cls := "com/example/stampwise/stampwise/history/IntGroups", name := "startPlacing", desc := "()V" } : Jvm.MethodName))).before a0 Z = true := hw _ (List.mem_of_getElem? (i := 28) rfl)
theorem w29 {Z : State} {a0 : Array Value} (hw : HW Z a0) : ((Jvm.Cond.code ({ cls := "com/example/stampwise/stampwise/history/IntGroups", name := "startPlacing", desc := "()V" } : Jvm.MethodName) prog_113_method_3_code (2 : Nat) (Option.none : Option Jvm.ClassFile.FieldType))).before a0 Z = true := hw _ (List.mem_of_getElem? (i := 29) rfl)
theorem w30 {Z : State} {a0 : Array Value} (hw : HW Z a0) : ((Jvm.Cond.fieldLink "com/example/stampwise/stampwise/history/IntGroups" (13 : Nat) "com/example/stampwise/stampwise/history/IntGroups" "values" "[I")).before a0 Z = true := hw _ (List.mem_of_getElem? (i := 30) rfl)
theorem w31 {Z : State} {a0 : Array Value} (hw : HW Z a0) : ((Jvm.Cond.lays "com/example/stampwise/stampwise/history/IntGroups" "com/example/stampwise/stampwise/history/IntGroups" "values" "[I")).before a0 Z = true := hw _ (List.mem_of_getElem? (i := 31) rfl)
theorem w32 {Z : State} {a0 : Array Value} (hw : HW Z a0) : ((Jvm.Cond.methodLink "com/example/stampwise/stampwise/history/IntGroups" (16 : Nat) ({ cls := "java/lang/System", name := "arraycopy", desc := "(Ljava/lang/Object;ILjava/lang/Object;II)V" } : Jvm.MethodName))).before a0 Z = true := hw _ (List.mem_of_getElem? (i := 32) rfl)
theorem w33 {Z : State} {a0 : Array Value} (hw : HW Z a0) : ((Jvm.Cond.static ({ cls := "java/lang/System", name := "arraycopy", desc := "(Ljava/lang/Object;ILjava/lang/Object;II)V" } : Jvm.MethodName))).before a0 Z = true := hw _ (List.mem_of_getElem? (i := 33) rfl)
theorem w34 {Z : State} {a0 : Array Value} (hw : HW Z a0) : ((Jvm.Cond.initialized "java/lang/System")).before a0 Z = true := hw _ (List.mem_of_getElem? (i := 34) rfl)
theorem w35 {Z : State} {a0 : Array Value} (hw : HW Z a0) : ((Jvm.Cond.native ({ cls := "java/lang/System", name := "arraycopy", desc := "(Ljava/lang/Object;ILjava/lang/Object;II)V" } : Jvm.MethodName))).before a0 Z = true := hw _ (List.mem_of_getElem? (i := 35) rfl)
theorem w36 {Z : State} {a0 : Array Value} (hw : HW Z a0) : ((Jvm.Cond.methodLink "com/example/stampwise/stampwise/history/IntGroupsPlacePinLaw" (29 : Nat) ({ cls := "com/example/stampwise/stampwise/history/IntGroups", name := "place", desc := "(II)I" } : Jvm.MethodName))).before a0 Z = true := hw _ (List.mem_of_getElem? (i := 36) rfl)
theorem w37 {Z : State} {a0 : Array Value} (hw : HW Z a0) : ((Jvm.Cond.declares ({ cls := "com/example/stampwise/stampwise/history/IntGroups", name := "place", desc := "(II)I" } : Jvm.MethodName))).before a0 Z = true := hw _ (List.mem_of_getElem? (i := 37) rfl)
theorem w38 {Z : State} {a0 : Array Value} (hw : HW Z a0) : ((Jvm.Cond.instanceMethod ({ cls := "com/example/stampwise/stampwise/history/IntGroups", name := "place", desc := "(II)I" } : Jvm.MethodName))).before a0 Z = true := hw _ (List.mem_of_getElem? (i := 38) rfl)
theorem w39 {Z : State} {a0 : Array Value} (hw : HW Z a0) : ((Jvm.Cond.selects "com/example/stampwise/stampwise/history/IntGroups" ({ cls := "com/example/stampwise/stampwise/history/IntGroups", name := "place", desc := "(II)I" } : Jvm.MethodName) ({ cls := "com/example/stampwise/stampwise/history/IntGroups", name := "place", desc := "(II)I" } : Jvm.MethodName))).before a0 Z = true := hw _ (List.mem_of_getElem? (i := 39) rfl)
theorem w40 {Z : State} {a0 : Array Value} (hw : HW Z a0) : ((Jvm.Cond.code ({ cls := "com/example/stampwise/stampwise/history/IntGroups", name := "place", desc := "(II)I" } : Jvm.MethodName) prog_113_method_4_code (4 : Nat) (Option.some Jvm.ClassFile.FieldType.int))).before a0 Z = true := hw _ (List.mem_of_getElem? (i := 40) rfl)
theorem w41 {Z : State} {a0 : Array Value} (hw : HW Z a0) : ((Jvm.Cond.methodLink "com/example/stampwise/stampwise/history/IntGroupsPlacePinLaw" (32 : Nat) ({ cls := "com/example/stampwise/stampwise/history/IntGroups", name := "values", desc := "()[I" } : Jvm.MethodName))).before a0 Z = true := hw _ (List.mem_of_getElem? (i := 41) rfl)
theorem w42 {Z : State} {a0 : Array Value} (hw : HW Z a0) : ((Jvm.Cond.declares ({ cls := "com/example/stampwise/stampwise/history/IntGroups", name := "values", desc := "()[I" } : Jvm.MethodName))).before a0 Z = true := hw _ (List.mem_of_getElem? (i := 42) rfl)
theorem w43 {Z : State} {a0 : Array Value} (hw : HW Z a0) : ((Jvm.Cond.instanceMethod ({ cls := "com/example/stampwise/stampwise/history/IntGroups", name := "values", desc := "()[I" } : Jvm.MethodName))).before a0 Z = true := hw _ (List.mem_of_getElem? (i := 43) rfl)
theorem w44 {Z : State} {a0 : Array Value} (hw : HW Z a0) : ((Jvm.Cond.selects "com/example/stampwise/stampwise/history/IntGroups" ({ cls := "com/example/stampwise/stampwise/history/IntGroups", name := "values", desc := "()[I" } : Jvm.MethodName) ({ cls := "com/example/stampwise/stampwise/history/IntGroups", name := "values", desc := "()[I" } : Jvm.MethodName))).before a0 Z = true := hw _ (List.mem_of_getElem? (i := 44) rfl)
theorem w45 {Z : State} {a0 : Array Value} (hw : HW Z a0) : ((Jvm.Cond.code ({ cls := "com/example/stampwise/stampwise/history/IntGroups", name := "values", desc := "()[I" } : Jvm.MethodName) prog_113_method_7_code (1 : Nat) (Option.some (Jvm.ClassFile.FieldType.array Jvm.ClassFile.FieldType.int)))).before a0 Z = true := hw _ (List.mem_of_getElem? (i := 45) rfl)
theorem w46 {Z : State} {a0 : Array Value} (hw : HW Z a0) : ((Jvm.Cond.methodLink "com/example/stampwise/stampwise/history/IntGroupsPlacePinLaw" (36 : Nat) ({ cls := "com/example/stampwise/stampwise/history/IntGroups", name := "start", desc := "(I)I" } : Jvm.MethodName))).before a0 Z = true := hw _ (List.mem_of_getElem? (i := 46) rfl)
theorem w47 {Z : State} {a0 : Array Value} (hw : HW Z a0) : ((Jvm.Cond.declares ({ cls := "com/example/stampwise/stampwise/history/IntGroups", name := "start", desc := "(I)I" } : Jvm.MethodName))).before a0 Z = true := hw _ (List.mem_of_getElem? (i := 47) rfl)
theorem w48 {Z : State} {a0 : Array Value} (hw : HW Z a0) : ((Jvm.Cond.instanceMethod ({ cls := "com/example/stampwise/stampwise/history/IntGroups", name := "start", desc := "(I)I" } : Jvm.MethodName))).before a0 Z = true := hw _ (List.mem_of_getElem? (i := 48) rfl)
theorem w49 {Z : State} {a0 : Array Value} (hw : HW Z a0) : ((Jvm.Cond.selects "com/example/stampwise/stampwise/history/IntGroups" ({ cls := "com/example/stampwise/stampwise/history/IntGroups", name := "start", desc := "(I)I" } : Jvm.MethodName) ({ cls := "com/example/stampwise/stampwise/history/IntGroups", name := "start", desc := "(I)I" } : Jvm.MethodName))).before a0 Z = true := hw _ (List.mem_of_getElem? (i := 49) rfl)
theorem w50 {Z : State} {a0 : Array Value} (hw : HW Z a0) : ((Jvm.Cond.code ({ cls := "com/example/stampwise/stampwise/history/IntGroups", name := "start", desc := "(I)I" } : Jvm.MethodName) prog_113_method_5_code (2 : Nat) (Option.some Jvm.ClassFile.FieldType.int))).before a0 Z = true := hw _ (List.mem_of_getElem? (i := 50) rfl)
theorem pd_0 : parseMethodDescriptor "(IIII)I" = some ⟨[.int, .int, .int, .int], some .int⟩ := by decide +kernel
theorem pd_1 : parseMethodDescriptor "(II)I" = some ⟨[.int, .int], some .int⟩ := by decide +kernel
theorem pd_2 : parseMethodDescriptor "(I)V" = some ⟨[.int], none⟩ := by decide +kernel
theorem pd_3 : parseMethodDescriptor "()V" = some ⟨[], none⟩ := by decide +kernel
theorem pd_4 : parseMethodDescriptor "()[I" = some ⟨[], some (.array .int)⟩ := by decide +kernel
theorem pd_5 : parseMethodDescriptor "(I)I" = some ⟨[.int], some .int⟩ := by decide +kernel
theorem d1_0 : decode method_2_code 0 = .ok (.iload_n 0, 1) := by decide +kernel
theorem d1_1 : decode method_2_code 1 = .ok (.iload_n 3, 1) := by decide +kernel
theorem d1_2 : decode method_2_code 2 = .ok (.if_icmp .ge 7, 3) := by decide +kernel
theorem d1_5 : decode method_2_code 5 = .ok (.iconst 1, 1) := by decide +kernel
theorem d1_6 : decode method_2_code 6 = .ok (.goto 4, 3) := by decide +kernel
theorem d1_9 : decode method_2_code 9 = .ok (.iconst 0, 1) := by decide +kernel
theorem d1_10 : decode method_2_code 10 = .ok (.iload_n 1, 1) := by decide +kernel
theorem d1_11 : decode method_2_code 11 = .ok (.iload_n 3, 1) := by decide +kernel
theorem d1_12 : decode method_2_code 12 = .ok (.if_icmp .ge 7, 3) := by decide +kernel
theorem d1_15 : decode method_2_code 15 = .ok (.iconst 1, 1) := by decide +kernel
theorem d1_16 : decode method_2_code 16 = .ok (.goto 4, 3) := by decide +kernel
theorem d1_19 : decode method_2_code 19 = .ok (.iconst 0, 1) := by decide +kernel
theorem d1_20 : decode method_2_code 20 = .ok (.iadd, 1) := by decide +kernel
theorem d1_21 : decode method_2_code 21 = .ok (.iload_n 2, 1) := by decide +kernel
theorem d1_22 : decode method_2_code 22 = .ok (.iload_n 3, 1) := by decide +kernel
theorem d1_23 : decode method_2_code 23 = .ok (.if_icmp .ge 7, 3) := by decide +kernel
theorem d1_26 : decode method_2_code 26 = .ok (.iconst 1, 1) := by decide +kernel
theorem d1_27 : decode method_2_code 27 = .ok (.goto 4, 3) := by decide +kernel
theorem d1_30 : decode method_2_code 30 = .ok (.iconst 0, 1) := by decide +kernel
theorem d1_31 : decode method_2_code 31 = .ok (.iadd, 1) := by decide +kernel
theorem d1_32 : decode method_2_code 32 = .ok (.ireturn, 1) := by decide +kernel
theorem d2_0 : decode method_3_code 0 = .ok (.iload_n 0, 1) := by decide +kernel
theorem d2_1 : decode method_3_code 1 = .ok (.iload_n 1, 1) := by decide +kernel
theorem d2_2 : decode method_3_code 2 = .ok (.if_icmp .ne 7, 3) := by decide +kernel
theorem d2_5 : decode method_3_code 5 = .ok (.iconst 1, 1) := by decide +kernel
theorem d2_6 : decode method_3_code 6 = .ok (.goto 4, 3) := by decide +kernel
theorem d2_9 : decode method_3_code 9 = .ok (.iconst 0, 1) := by decide +kernel
theorem d2_10 : decode method_3_code 10 = .ok (.ireturn, 1) := by decide +kernel
theorem d3_0 : decode prog_113_method_1_code 0 = .ok (.aload_n 0, 1) := by decide +kernel
theorem d3_1 : decode prog_113_method_1_code 1 = .ok (.invokespecial 1, 3) := by decide +kernel
theorem d3_4 : decode prog_113_method_1_code 4 = .ok (.aload_n 0, 1) := by decide +kernel
theorem d3_5 : decode prog_113_method_1_code 5 = .ok (.iload_n 1, 1) := by decide +kernel
theorem d3_6 : decode prog_113_method_1_code 6 = .ok (.iconst 1, 1) := by decide +kernel
theorem d3_7 : decode prog_113_method_1_code 7 = .ok (.iadd, 1) := by decide +kernel
theorem d3_8 : decode prog_113_method_1_code 8 = .ok (.newarray .int, 2) := by decide +kernel
theorem d3_10 : decode prog_113_method_1_code 10 = .ok (.putfield 7, 3) := by decide +kernel
theorem d3_13 : decode prog_113_method_1_code 13 = .ok (.return_, 1) := by decide +kernel
theorem d5_0 : decode prog_113_method_2_code 0 = .ok (.aload_n 0, 1) := by decide +kernel
theorem d5_1 : decode prog_113_method_2_code 1 = .ok (.getfield 7, 3) := by decide +kernel
theorem d5_4 : decode prog_113_method_2_code 4 = .ok (.iload_n 1, 1) := by decide +kernel
theorem d5_5 : decode prog_113_method_2_code 5 = .ok (.iconst 1, 1) := by decide +kernel
theorem d5_6 : decode prog_113_method_2_code 6 = .ok (.iadd, 1) := by decide +kernel
theorem d5_7 : decode prog_113_method_2_code 7 = .ok (.dup2, 1) := by decide +kernel
theorem d5_8 : decode prog_113_method_2_code 8 = .ok (.iaload, 1) := by decide +kernel
theorem d5_9 : decode prog_113_method_2_code 9 = .ok (.iconst 1, 1) := by decide +kernel
theorem d5_10 : decode prog_113_method_2_code 10 = .ok (.iadd, 1) := by decide +kernel
theorem d5_11 : decode prog_113_method_2_code 11 = .ok (.iastore, 1) := by decide +kernel
theorem d5_12 : decode prog_113_method_2_code 12 = .ok (.return_, 1) := by decide +kernel
theorem d6_0 : decode prog_113_method_3_code 0 = .ok (.iconst 1, 1) := by decide +kernel
theorem d6_1 : decode prog_113_method_3_code 1 = .ok (.istore_n 1, 1) := by decide +kernel
theorem d6_2 : decode prog_113_method_3_code 2 = .ok (.iload_n 1, 1) := by decide +kernel
theorem d6_3 : decode prog_113_method_3_code 3 = .ok (.aload_n 0, 1) := by decide +kernel
theorem d6_4 : decode prog_113_method_3_code 4 = .ok (.getfield 7, 3) := by decide +kernel
theorem d6_7 : decode prog_113_method_3_code 7 = .ok (.arraylength, 1) := by decide +kernel
theorem d6_8 : decode prog_113_method_3_code 8 = .ok (.if_icmp .ge 26, 3) := by decide +kernel
theorem d6_11 : decode prog_113_method_3_code 11 = .ok (.aload_n 0, 1) := by decide +kernel
theorem d6_12 : decode prog_113_method_3_code 12 = .ok (.getfield 7, 3) := by decide +kernel
theorem d6_15 : decode prog_113_method_3_code 15 = .ok (.iload_n 1, 1) := by decide +kernel
theorem d6_16 : decode prog_113_method_3_code 16 = .ok (.dup2, 1) := by decide +kernel
theorem d6_17 : decode prog_113_method_3_code 17 = .ok (.iaload, 1) := by decide +kernel
theorem d6_18 : decode prog_113_method_3_code 18 = .ok (.aload_n 0, 1) := by decide +kernel
theorem d6_19 : decode prog_113_method_3_code 19 = .ok (.getfield 7, 3) := by decide +kernel
theorem d6_22 : decode prog_113_method_3_code 22 = .ok (.iload_n 1, 1) := by decide +kernel
theorem d6_23 : decode prog_113_method_3_code 23 = .ok (.iconst 1, 1) := by decide +kernel
theorem d6_24 : decode prog_113_method_3_code 24 = .ok (.isub, 1) := by decide +kernel
theorem d6_25 : decode prog_113_method_3_code 25 = .ok (.iaload, 1) := by decide +kernel
theorem d6_26 : decode prog_113_method_3_code 26 = .ok (.iadd, 1) := by decide +kernel
theorem d6_27 : decode prog_113_method_3_code 27 = .ok (.iastore, 1) := by decide +kernel
theorem d6_28 : decode prog_113_method_3_code 28 = .ok (.iinc 1 1, 3) := by decide +kernel
theorem d6_31 : decode prog_113_method_3_code 31 = .ok (.goto (-29), 3) := by decide +kernel
theorem d6_34 : decode prog_113_method_3_code 34 = .ok (.aload_n 0, 1) := by decide +kernel
theorem d6_35 : decode prog_113_method_3_code 35 = .ok (.aload_n 0, 1) := by decide +kernel
theorem d6_36 : decode prog_113_method_3_code 36 = .ok (.getfield 7, 3) := by decide +kernel
theorem d6_39 : decode prog_113_method_3_code 39 = .ok (.aload_n 0, 1) := by decide +kernel
theorem d6_40 : decode prog_113_method_3_code 40 = .ok (.getfield 7, 3) := by decide +kernel
theorem d6_43 : decode prog_113_method_3_code 43 = .ok (.arraylength, 1) := by decide +kernel
theorem d6_44 : decode prog_113_method_3_code 44 = .ok (.iconst 1, 1) := by decide +kernel
theorem d6_45 : decode prog_113_method_3_code 45 = .ok (.isub, 1) := by decide +kernel
theorem d6_46 : decode prog_113_method_3_code 46 = .ok (.iaload, 1) := by decide +kernel
theorem d6_47 : decode prog_113_method_3_code 47 = .ok (.newarray .int, 2) := by decide +kernel
theorem d6_49 : decode prog_113_method_3_code 49 = .ok (.putfield 13, 3) := by decide +kernel
theorem d6_52 : decode prog_113_method_3_code 52 = .ok (.aload_n 0, 1) := by decide +kernel
theorem d6_53 : decode prog_113_method_3_code 53 = .ok (.getfield 7, 3) := by decide +kernel
theorem d6_56 : decode prog_113_method_3_code 56 = .ok (.iconst 0, 1) := by decide +kernel
theorem d6_57 : decode prog_113_method_3_code 57 = .ok (.aload_n 0, 1) := by decide +kernel
theorem d6_58 : decode prog_113_method_3_code 58 = .ok (.getfield 7, 3) := by decide +kernel
theorem d6_61 : decode prog_113_method_3_code 61 = .ok (.iconst 1, 1) := by decide +kernel
theorem d6_62 : decode prog_113_method_3_code 62 = .ok (.aload_n 0, 1) := by decide +kernel
theorem d6_63 : decode prog_113_method_3_code 63 = .ok (.getfield 7, 3) := by decide +kernel
theorem d6_66 : decode prog_113_method_3_code 66 = .ok (.arraylength, 1) := by decide +kernel
theorem d6_67 : decode prog_113_method_3_code 67 = .ok (.iconst 1, 1) := by decide +kernel
theorem d6_68 : decode prog_113_method_3_code 68 = .ok (.isub, 1) := by decide +kernel
theorem d6_69 : decode prog_113_method_3_code 69 = .ok (.invokestatic 16, 3) := by decide +kernel
theorem d6_72 : decode prog_113_method_3_code 72 = .ok (.return_, 1) := by decide +kernel
theorem d7_0 : decode prog_113_method_4_code 0 = .ok (.aload_n 0, 1) := by decide +kernel
theorem d7_1 : decode prog_113_method_4_code 1 = .ok (.getfield 7, 3) := by decide +kernel
theorem d7_4 : decode prog_113_method_4_code 4 = .ok (.iload_n 1, 1) := by decide +kernel
theorem d7_5 : decode prog_113_method_4_code 5 = .ok (.iconst 1, 1) := by decide +kernel
theorem d7_6 : decode prog_113_method_4_code 6 = .ok (.iadd, 1) := by decide +kernel
theorem d7_7 : decode prog_113_method_4_code 7 = .ok (.iaload, 1) := by decide +kernel
theorem d7_8 : decode prog_113_method_4_code 8 = .ok (.istore_n 3, 1) := by decide +kernel
theorem d7_9 : decode prog_113_method_4_code 9 = .ok (.aload_n 0, 1) := by decide +kernel
theorem d7_10 : decode prog_113_method_4_code 10 = .ok (.getfield 13, 3) := by decide +kernel
theorem d7_13 : decode prog_113_method_4_code 13 = .ok (.iload_n 3, 1) := by decide +kernel
theorem d7_14 : decode prog_113_method_4_code 14 = .ok (.iload_n 2, 1) := by decide +kernel
theorem d7_15 : decode prog_113_method_4_code 15 = .ok (.iastore, 1) := by decide +kernel
theorem d7_16 : decode prog_113_method_4_code 16 = .ok (.aload_n 0, 1) := by decide +kernel
theorem d7_17 : decode prog_113_method_4_code 17 = .ok (.getfield 7, 3) := by decide +kernel
theorem d7_20 : decode prog_113_method_4_code 20 = .ok (.iload_n 1, 1) := by decide +kernel
theorem d7_21 : decode prog_113_method_4_code 21 = .ok (.iconst 1, 1) := by decide +kernel
theorem d7_22 : decode prog_113_method_4_code 22 = .ok (.iadd, 1) := by decide +kernel
theorem d7_23 : decode prog_113_method_4_code 23 = .ok (.dup2, 1) := by decide +kernel
theorem d7_24 : decode prog_113_method_4_code 24 = .ok (.iaload, 1) := by decide +kernel
theorem d7_25 : decode prog_113_method_4_code 25 = .ok (.iconst 1, 1) := by decide +kernel
theorem d7_26 : decode prog_113_method_4_code 26 = .ok (.iadd, 1) := by decide +kernel
theorem d7_27 : decode prog_113_method_4_code 27 = .ok (.iastore, 1) := by decide +kernel
theorem d7_28 : decode prog_113_method_4_code 28 = .ok (.iload_n 3, 1) := by decide +kernel
theorem d7_29 : decode prog_113_method_4_code 29 = .ok (.ireturn, 1) := by decide +kernel
theorem d8_0 : decode prog_113_method_7_code 0 = .ok (.aload_n 0, 1) := by decide +kernel
theorem d8_1 : decode prog_113_method_7_code 1 = .ok (.getfield 13, 3) := by decide +kernel
theorem d8_4 : decode prog_113_method_7_code 4 = .ok (.areturn, 1) := by decide +kernel
theorem d9_0 : decode prog_113_method_5_code 0 = .ok (.aload_n 0, 1) := by decide +kernel
theorem d9_1 : decode prog_113_method_5_code 1 = .ok (.getfield 7, 3) := by decide +kernel
theorem d9_4 : decode prog_113_method_5_code 4 = .ok (.iload_n 1, 1) := by decide +kernel
theorem d9_5 : decode prog_113_method_5_code 5 = .ok (.iaload, 1) := by decide +kernel
theorem d9_6 : decode prog_113_method_5_code 6 = .ok (.ireturn, 1) := by decide +kernel
def B0 : Bod := ("com/example/stampwise/stampwise/history/IntGroupsPlacePinLaw", "law", code, maxLocals, ret, room_1)
theorem pl0 : plainFor (⟨"com/example/stampwise/stampwise/history/IntGroupsPlacePinLaw", "law", "(IIIII)Z"⟩ : MethodName) = true := plainFor_of_name (by first | (simp [plainName, overriddenIn]; done) | decide +kernel)
def B1 : Bod := ("com/example/stampwise/stampwise/history/IntGroupsPlacePinLaw", "below", method_2_code, 4, some .int, ({ frames := 0, cells := 0, slots := 0, locals := 0 } : Room))
theorem pl1 : plainFor (⟨"com/example/stampwise/stampwise/history/IntGroupsPlacePinLaw", "below", "(IIII)I"⟩ : MethodName) = true := plainFor_of_name (by first | (simp [plainName, overriddenIn]; done) | decide +kernel)
def B2 : Bod := ("com/example/stampwise/stampwise/history/IntGroupsPlacePinLaw", "same", method_3_code, 2, some .int, ({ frames := 0, cells := 0, slots := 0, locals := 0 } : Room))
theorem pl2 : plainFor (⟨"com/example/stampwise/stampwise/history/IntGroupsPlacePinLaw", "same", "(II)I"⟩ : MethodName) = true := plainFor_of_name (by first | (simp [plainName, overriddenIn]; done) | decide +kernel)
def B3 : Bod := ("com/example/stampwise/stampwise/history/IntGroups", "<init>", prog_113_method_1_code, 2, none, ({ frames := 1, cells := 1, slots := 5, locals := 12 } : Room))
theorem pl3 : plainFor (⟨"com/example/stampwise/stampwise/history/IntGroups", "<init>", "(I)V"⟩ : MethodName) = true := plainFor_of_name (by first | (simp [plainName, overriddenIn]; done) | decide +kernel)
def B5 : Bod := ("com/example/stampwise/stampwise/history/IntGroups", "count", prog_113_method_2_code, 2, none, ({ frames := 0, cells := 0, slots := 0, locals := 0 } : Room))
theorem pl5 : plainFor (⟨"com/example/stampwise/stampwise/history/IntGroups", "count", "(I)V"⟩ : MethodName) = true := plainFor_of_name (by first | (simp [plainName, overriddenIn]; done) | decide +kernel)
def B6 : Bod := ("com/example/stampwise/stampwise/history/IntGroups", "startPlacing", prog_113_method_3_code, 2, none, ({ frames := 1, cells := 1, slots := 3, locals := 40 } : Room))
theorem pl6 : plainFor (⟨"com/example/stampwise/stampwise/history/IntGroups", "startPlacing", "()V"⟩ : MethodName) = true := plainFor_of_name (by first | (simp [plainName, overriddenIn]; done) | decide +kernel)
def B7 : Bod := ("com/example/stampwise/stampwise/history/IntGroups", "place", prog_113_method_4_code, 4, some .int, ({ frames := 0, cells := 0, slots := 0, locals := 0 } : Room))
theorem pl7 : plainFor (⟨"com/example/stampwise/stampwise/history/IntGroups", "place", "(II)I"⟩ : MethodName) = true := plainFor_of_name (by first | (simp [plainName, overriddenIn]; done) | decide +kernel)
def B8 : Bod := ("com/example/stampwise/stampwise/history/IntGroups", "values", prog_113_method_7_code, 1, some (.array .int), ({ frames := 0, cells := 0, slots := 0, locals := 0 } : Room))
theorem pl8 : plainFor (⟨"com/example/stampwise/stampwise/history/IntGroups", "values", "()[I"⟩ : MethodName) = true := plainFor_of_name (by first | (simp [plainName, overriddenIn]; done) | decide +kernel)
def B9 : Bod := ("com/example/stampwise/stampwise/history/IntGroups", "start", prog_113_method_5_code, 2, some .int, ({ frames := 0, cells := 0, slots := 0, locals := 0 } : Room))
theorem pl9 : plainFor (⟨"com/example/stampwise/stampwise/history/IntGroups", "start", "(I)I"⟩ : MethodName) = true := plainFor_of_name (by first | (simp [plainName, overriddenIn]; done) | decide +kernel)
def L_IG : OLay := [("com/example/stampwise/stampwise/history/IntGroups", "starts", "[I"), ("com/example/stampwise/stampwise/history/IntGroups", "values", "[I")]
theorem lay_IG {Z : State} {a0 : Array Value} (hw : HW Z a0) : OLaids Z a0 "com/example/stampwise/stampwise/history/IntGroups" L_IG := by
  intro q hq
  simp only [L_IG, List.mem_cons, List.not_mem_nil, or_false] at hq
  rcases hq with rfl | rfl
  · exact ⟨Or.inr (w19 hw), (.array .int), by decide⟩
  · exact ⟨Or.inl (w31 hw), (.array .int), by decide⟩

def bel (a b d k : Nat) : Nat := (if a < k then 1 else 0) + (if b < k then 1 else 0) + (if d < k then 1 else 0)
def sam (a b : Nat) : Nat := if a = b then 1 else 0
def cnt (S : List Nat) (k : Nat) : List Nat := S.set (k + 1) (S.getD (k + 1) 0 + 1)
def sp (S : List Nat) : List Nat := [S.getD 0 0, S.getD 0 0, S.getD 1 0 + S.getD 0 0, S.getD 2 0 + (S.getD 1 0 + S.getD 0 0), S.getD 3 0 + (S.getD 2 0 + (S.getD 1 0 + S.getD 0 0))]
def tot (S : List Nat) : Nat := S.getD 4 0 + (S.getD 3 0 + (S.getD 2 0 + (S.getD 1 0 + S.getD 0 0)))
def enc (S : List Nat) : List Value := S.map fun n => .int (Int32.ofNat n)
theorem ofN {n : Nat} (h : n < 100000) : (Int32.ofNat n).toInt = (n : Int) := Int32.toInt_ofNat_of_lt (by omega)
theorem ofS {n : Nat} (h : n < 1000) : Int32.ofNat n + 1 = Int32.ofNat (n + 1) := own_e32 (by
  have e1 : (1 : Int32).toInt = 1 := by decide
  rw [own_iadd (by rw [ofN (by omega)]; omega) (by rw [ofN (by omega)]; omega), ofN (by omega), ofN (by omega), e1]; omega)
theorem enc_len (S : List Nat) : (enc S).length = S.length := by simp [enc]
theorem enc_get {S : List Nat} {i : Nat} (h : i < S.length) : (enc S)[i]? = some (.int (Int32.ofNat (S.getD i 0))) := by
  simp [enc, h]
theorem enc_cnt {S : List Nat} {k : Nat} (h : S.getD (k + 1) 0 < 1000) : (enc S).set (k + 1) (.int (Int32.ofNat (S.getD (k + 1) 0) + 1)) = enc (cnt S k) := by
  rw [ofS h]; simp [enc, cnt, List.map_set]
theorem cnt_len (S : List Nat) (k : Nat) : (cnt S k).length = S.length := by simp [cnt]
theorem own_len5 {S : List Nat} (h : S.length = 5) : ∃ a b d e f, S = [a, b, d, e, f] := by
  match S, h with
  | [a, b, d, e, f], _ => exact ⟨a, b, d, e, f, rfl⟩
theorem own_l5 {us L : List Value} (h1 : us.length = 5) (h2 : L.length = 5) (h : ∀ i, i < 5 → us[i]? = L[i]?) : us = L := by
  apply List.ext_getElem?
  intro i
  by_cases c : i < 5
  · exact h i c
  · rw [List.getElem?_eq_none (by omega), List.getElem?_eq_none (by omega)]
def G0 (Z : State) (n0 : Nat) (h : Heap) (q : Addr) (S : List Nat) : Prop := ∃ st : Addr, Ob Z h q "com/example/stampwise/stampwise/history/IntGroups" L_IG [.ref st, .null] ∧ Av Z h st .int (enc S) ∧ S.length = 5 ∧ n0 ≤ q ∧ n0 ≤ st ∧ q ≠ st
def G1 (Z : State) (n0 : Nat) (h : Heap) (q : Addr) (S : List Nat) (W : List Value) : Prop := ∃ st va : Addr, Ob Z h q "com/example/stampwise/stampwise/history/IntGroups" L_IG [.ref st, .ref va] ∧ Av Z h st .int (enc S) ∧ Av Z h va .int W ∧ S.length = 5 ∧ n0 ≤ q ∧ n0 ≤ st ∧ n0 ≤ va ∧ q ≠ st ∧ q ≠ va ∧ st ≠ va
theorem G0.exa {Z : State} {n0 : Nat} {h : Heap} {q : Addr} {S : List Nat} (I : G0 Z n0 h q S) : Exa Z h q "com/example/stampwise/stampwise/history/IntGroups" := by obtain ⟨_, O, -⟩ := I; exact O.1
theorem G1.exa {Z : State} {n0 : Nat} {h : Heap} {q : Addr} {S : List Nat} {W : List Value} (I : G1 Z n0 h q S W) : Exa Z h q "com/example/stampwise/stampwise/history/IntGroups" := by obtain ⟨_, _, O, -⟩ := I; exact O.1

theorem bel_met {l : Launch} {Z : State} {a0 : Array Value} (hw : HW Z a0) {n0 : Nat} {h : Heap} (a b d k : Int32) (na nb nd nk : Nat) (ha : a.toInt = (na : Int)) (hb_ : b.toInt = (nb : Int)) (hd_ : d.toInt = (nd : Int)) (hk : k.toInt = (nk : Int)) : OMet l (⟨"com/example/stampwise/stampwise/history/IntGroupsPlacePinLaw", "below", "(IIII)I"⟩ : MethodName) B1 Z n0 #[(.int a), (.int b), (.int d), (.int k)] h (fun v h' => h = h' ∧ ∃ r : Int32, v = some (.int r) ∧ r.toInt = (bel na nb nd nk : Int)) := by
  refine OMet.of_wp (ls0 := #[.val (.int a), .val (.int b), .val (.int d), .val (.int k)]) pl1 rfl rfl (fun m => own_entry 0 rfl rfl) ?_
  have k32_0 : (0 : Int32).toInt = 0 := by decide
  have k32_1 : (1 : Int32).toInt = 1 := by decide
  have k32_2 : (2 : Int32).toInt = 2 := by decide
  have k32_3 : (3 : Int32).toInt = 3 := by decide
  refine WP.iloadN d1_0 rfl (pc' := 1) rfl ?_
  refine WP.iloadN d1_1 rfl (pc' := 2) rfl ?_
  refine WP.icmpGe d1_2 (tgt := 9) (by decide) (pc' := 5) rfl (fun c2 => ?_) (fun c2 => ?_)
  ·
    refine WP.iconst d1_9 (z := (0 : Int32)) rfl (pc' := 10) rfl ?_
    refine WP.iloadN d1_10 rfl (pc' := 11) rfl ?_
    refine WP.iloadN d1_11 rfl (pc' := 12) rfl ?_
    refine WP.icmpGe d1_12 (tgt := 19) (by decide) (pc' := 15) rfl (fun c12 => ?_) (fun c12 => ?_)
    ·
      refine WP.iconst d1_19 (z := (0 : Int32)) rfl (pc' := 20) rfl ?_
      refine WP.iadd d1_20 (pc' := 21) rfl ?_
      rw [show (((0 : Int32) + (0 : Int32)) : Int32) = (0 : Int32) from by decide]
      refine WP.iloadN d1_21 rfl (pc' := 22) rfl ?_
      refine WP.iloadN d1_22 rfl (pc' := 23) rfl ?_
      refine WP.icmpGe d1_23 (tgt := 30) (by decide) (pc' := 26) rfl (fun c23 => ?_) (fun c23 => ?_)
      ·
        refine WP.iconst d1_30 (z := (0 : Int32)) rfl (pc' := 31) rfl ?_
        refine WP.iadd d1_31 (pc' := 32) rfl ?_
        rw [show (((0 : Int32) + (0 : Int32)) : Int32) = (0 : Int32) from by decide]
        exact WP.retI d1_32 rfl (by decide) (by decide) ⟨rfl, _, rfl, by simp only [bel]; split <;> split <;> split <;> omega⟩
      refine WP.iconst d1_26 (z := (1 : Int32)) rfl (pc' := 27) rfl ?_
      refine WP.goto d1_27 (pc' := 31) (by decide) ?_
      refine WP.iadd d1_31 (pc' := 32) rfl ?_
      rw [show (((0 : Int32) + (1 : Int32)) : Int32) = (1 : Int32) from by decide]
      exact WP.retI d1_32 rfl (by decide) (by decide) ⟨rfl, _, rfl, by simp only [bel]; split <;> split <;> split <;> omega⟩
    refine WP.iconst d1_15 (z := (1 : Int32)) rfl (pc' := 16) rfl ?_
    refine WP.goto d1_16 (pc' := 20) (by decide) ?_
    refine WP.iadd d1_20 (pc' := 21) rfl ?_
    rw [show (((0 : Int32) + (1 : Int32)) : Int32) = (1 : Int32) from by decide]
    refine WP.iloadN d1_21 rfl (pc' := 22) rfl ?_
    refine WP.iloadN d1_22 rfl (pc' := 23) rfl ?_
    refine WP.icmpGe d1_23 (tgt := 30) (by decide) (pc' := 26) rfl (fun c23 => ?_) (fun c23 => ?_)
    ·
      refine WP.iconst d1_30 (z := (0 : Int32)) rfl (pc' := 31) rfl ?_
      refine WP.iadd d1_31 (pc' := 32) rfl ?_
      rw [show (((1 : Int32) + (0 : Int32)) : Int32) = (1 : Int32) from by decide]
      exact WP.retI d1_32 rfl (by decide) (by decide) ⟨rfl, _, rfl, by simp only [bel]; split <;> split <;> split <;> omega⟩
    refine WP.iconst d1_26 (z := (1 : Int32)) rfl (pc' := 27) rfl ?_
    refine WP.goto d1_27 (pc' := 31) (by decide) ?_
    refine WP.iadd d1_31 (pc' := 32) rfl ?_
    rw [show (((1 : Int32) + (1 : Int32)) : Int32) = (2 : Int32) from by decide]
    exact WP.retI d1_32 rfl (by decide) (by decide) ⟨rfl, _, rfl, by simp only [bel]; split <;> split <;> split <;> omega⟩
  refine WP.iconst d1_5 (z := (1 : Int32)) rfl (pc' := 6) rfl ?_
  refine WP.goto d1_6 (pc' := 10) (by decide) ?_
  refine WP.iloadN d1_10 rfl (pc' := 11) rfl ?_
  refine WP.iloadN d1_11 rfl (pc' := 12) rfl ?_
  refine WP.icmpGe d1_12 (tgt := 19) (by decide) (pc' := 15) rfl (fun c12 => ?_) (fun c12 => ?_)
  ·
    refine WP.iconst d1_19 (z := (0 : Int32)) rfl (pc' := 20) rfl ?_
    refine WP.iadd d1_20 (pc' := 21) rfl ?_
    rw [show (((1 : Int32) + (0 : Int32)) : Int32) = (1 : Int32) from by decide]
    refine WP.iloadN d1_21 rfl (pc' := 22) rfl ?_
    refine WP.iloadN d1_22 rfl (pc' := 23) rfl ?_
    refine WP.icmpGe d1_23 (tgt := 30) (by decide) (pc' := 26) rfl (fun c23 => ?_) (fun c23 => ?_)
    ·
      refine WP.iconst d1_30 (z := (0 : Int32)) rfl (pc' := 31) rfl ?_
      refine WP.iadd d1_31 (pc' := 32) rfl ?_
      rw [show (((1 : Int32) + (0 : Int32)) : Int32) = (1 : Int32) from by decide]
      exact WP.retI d1_32 rfl (by decide) (by decide) ⟨rfl, _, rfl, by simp only [bel]; split <;> split <;> split <;> omega⟩
    refine WP.iconst d1_26 (z := (1 : Int32)) rfl (pc' := 27) rfl ?_
    refine WP.goto d1_27 (pc' := 31) (by decide) ?_
    refine WP.iadd d1_31 (pc' := 32) rfl ?_
    rw [show (((1 : Int32) + (1 : Int32)) : Int32) = (2 : Int32) from by decide]
    exact WP.retI d1_32 rfl (by decide) (by decide) ⟨rfl, _, rfl, by simp only [bel]; split <;> split <;> split <;> omega⟩
  refine WP.iconst d1_15 (z := (1 : Int32)) rfl (pc' := 16) rfl ?_
  refine WP.goto d1_16 (pc' := 20) (by decide) ?_
  refine WP.iadd d1_20 (pc' := 21) rfl ?_
  rw [show (((1 : Int32) + (1 : Int32)) : Int32) = (2 : Int32) from by decide]
  refine WP.iloadN d1_21 rfl (pc' := 22) rfl ?_
  refine WP.iloadN d1_22 rfl (pc' := 23) rfl ?_
  refine WP.icmpGe d1_23 (tgt := 30) (by decide) (pc' := 26) rfl (fun c23 => ?_) (fun c23 => ?_)
  ·
    refine WP.iconst d1_30 (z := (0 : Int32)) rfl (pc' := 31) rfl ?_
    refine WP.iadd d1_31 (pc' := 32) rfl ?_
    rw [show (((2 : Int32) + (0 : Int32)) : Int32) = (2 : Int32) from by decide]
    exact WP.retI d1_32 rfl (by decide) (by decide) ⟨rfl, _, rfl, by simp only [bel]; split <;> split <;> split <;> omega⟩
  refine WP.iconst d1_26 (z := (1 : Int32)) rfl (pc' := 27) rfl ?_
  refine WP.goto d1_27 (pc' := 31) (by decide) ?_
  refine WP.iadd d1_31 (pc' := 32) rfl ?_
  rw [show (((2 : Int32) + (1 : Int32)) : Int32) = (3 : Int32) from by decide]
  exact WP.retI d1_32 rfl (by decide) (by decide) ⟨rfl, _, rfl, by simp only [bel]; split <;> split <;> split <;> omega⟩
theorem sam_met {l : Launch} {Z : State} {a0 : Array Value} (hw : HW Z a0) {n0 : Nat} {h : Heap} (a b : Int32) (na nb : Nat) (ha : a.toInt = (na : Int)) (hb_ : b.toInt = (nb : Int)) : OMet l (⟨"com/example/stampwise/stampwise/history/IntGroupsPlacePinLaw", "same", "(II)I"⟩ : MethodName) B2 Z n0 #[(.int a), (.int b)] h (fun v h' => h = h' ∧ ∃ r : Int32, v = some (.int r) ∧ r.toInt = (sam na nb : Int)) := by
  refine OMet.of_wp (ls0 := #[.val (.int a), .val (.int b)]) pl2 rfl rfl (fun m => own_entry 0 rfl rfl) ?_
  have k32_0 : (0 : Int32).toInt = 0 := by decide
  have k32_1 : (1 : Int32).toInt = 1 := by decide
  refine WP.iloadN d2_0 rfl (pc' := 1) rfl ?_
  refine WP.iloadN d2_1 rfl (pc' := 2) rfl ?_
  refine WP.icmpNe d2_2 (tgt := 9) (by decide) (pc' := 5) rfl (fun c2 => ?_) (fun c2 => ?_)
  ·
    refine WP.iconst d2_9 (z := (0 : Int32)) rfl (pc' := 10) rfl ?_
    exact WP.retI d2_10 rfl (by decide) (by decide) ⟨rfl, _, rfl, by simp only [sam]; split <;> omega⟩
  refine WP.iconst d2_5 (z := (1 : Int32)) rfl (pc' := 6) rfl ?_
  refine WP.goto d2_6 (pc' := 10) (by decide) ?_
  exact WP.retI d2_10 rfl (by decide) (by decide) ⟨rfl, _, rfl, by simp only [sam]; split <;> omega⟩
theorem ini_met {l : Launch} {Z : State} {a0 : Array Value} (hw : HW Z a0) {n0 : Nat} {h : Heap} (q : Addr) (g_q : n0 ≤ q) (O_q : Ob Z h q "com/example/stampwise/stampwise/history/IntGroups" L_IG [.null, .null]) : OMet l (⟨"com/example/stampwise/stampwise/history/IntGroups", "<init>", "(I)V"⟩ : MethodName) B3 Z n0 #[(.ref q), (.int (4 : Int32))] h (fun v h' => v = none ∧ G0 Z n0 h' q [0, 0, 0, 0, 0]) := by
  refine OMet.of_wp (ls0 := #[.val (.ref q), .val (.int (4 : Int32))]) pl3 rfl rfl (fun m => own_entry 0 rfl rfl) ?_
  have k32_1 : (1 : Int32).toInt = 1 := by decide
  have k32_4 : (4 : Int32).toInt = 4 := by decide
  have k32_5 : (5 : Int32).toInt = 5 := by decide
  refine WP.aloadN d3_0 rfl rfl (pc' := 1) rfl ?_
  refine WP.initO (a := q) d3_1 (w15 hw) (w16 hw) (w17 hw) rfl (by decide) (Nat.le_of_ble_eq_true rfl) (pc' := 4) rfl ?_
  refine WP.aloadN d3_4 rfl rfl (pc' := 5) rfl ?_
  refine WP.iloadN d3_5 rfl (pc' := 6) rfl ?_
  refine WP.iconst d3_6 (z := (1 : Int32)) rfl (pc' := 7) rfl ?_
  refine WP.iadd d3_7 (pc' := 8) rfl ?_
  rw [show (((4 : Int32) + (1 : Int32)) : Int32) = (5 : Int32) from by decide]
  refine WP.newarr d3_8 (w1 hw) (k := 5) rfl 5 (by decide) (by decide) (by decide) (by decide) (pc' := 10) rfl ?_
  intro st h1 eb_st g_st K2 A_st
  replace A_st : Av Z h1 st .int [.int 0, .int 0, .int 0, .int 0, .int 0] := A_st
  have lt_q_st : q < st := by rw [eb_st]; exact O_q.lt
  replace O_q := O_q.keep K2 own_nil
  refine WP.putf (i := 0) d3_10 (w18 hw) O_q (lay_IG hw) (by decide) rfl (Or.inr ⟨(w19 hw), rfl, rfl⟩) (w10 hw) (t := (.array .int)) (by decide) rfl rfl g_q (pc' := 13) rfl ?_
  intro h3 K4 O_n
  replace A_st := A_st.keep K4 (own_cons (by first | assumption | exact Ne.symm (by assumption) | exact Nat.ne_of_lt (by assumption) | exact Nat.ne_of_gt (by assumption)) own_nil)
  replace O_q : Ob Z h3 q "com/example/stampwise/stampwise/history/IntGroups" L_IG [(.ref st), .null] := O_n
  clear O_n
  exact WP.ret0 d3_13 rfl (by decide) (by decide) ⟨rfl, st, O_q, A_st, rfl, g_q, g_st, (by first | assumption | exact Ne.symm (by assumption) | exact Nat.ne_of_lt (by assumption) | exact Nat.ne_of_gt (by assumption))⟩
theorem cou_met {l : Launch} {Z : State} {a0 : Array Value} (hw : HW Z a0) {n0 : Nat} {h : Heap} (q : Addr) (k : Int32) (n : Nat) (S : List Nat) (hI : G0 Z n0 h q S) (hk : k.toInt = (n : Int)) (hn : n < 4) (hy : S.getD (n + 1) 0 < 1000) : OMet l (⟨"com/example/stampwise/stampwise/history/IntGroups", "count", "(I)V"⟩ : MethodName) B5 Z n0 #[(.ref q), (.int k)] h (fun v h' => v = none ∧ G0 Z n0 h' q (cnt S n)) := by
  refine OMet.of_wp (ls0 := #[.val (.ref q), .val (.int k)]) pl5 rfl rfl (fun m => own_entry 0 rfl rfl) ?_
  obtain ⟨st, O_q, A_st, hS, g_q, g_st, n_qs⟩ := hI
  have k32_1 : (1 : Int32).toInt = 1 := by decide
  refine WP.aloadN d5_0 rfl rfl (pc' := 1) rfl ?_
  refine WP.getf (i := 0) (v := (.ref st)) d5_1 (w18 hw) O_q rfl rfl (pc' := 4) rfl ?_
  refine WP.iloadN d5_4 rfl (pc' := 5) rfl ?_
  refine WP.iconst d5_5 (z := (1 : Int32)) rfl (pc' := 6) rfl ?_
  refine WP.iadd d5_6 (pc' := 7) rfl ?_
  have f1 : (k + (1 : Int32)).toInt = ((n + 1 : Nat) : Int) := by rw [own_iadd] <;> omega
  refine WP.dup2 d5_7 rfl rfl (pc' := 8) rfl ?_
  refine WP.iaload (n + 1) d5_8 A_st (x := (Int32.ofNat (S.getD (n + 1) 0))) f1 (enc_get (by omega)) (pc' := 9) rfl ?_
  refine WP.iconst d5_9 (z := (1 : Int32)) rfl (pc' := 10) rfl ?_
  refine WP.iadd d5_10 (pc' := 11) rfl ?_
  refine WP.iastore (n + 1) d5_11 A_st f1 (by rw [enc_len]; omega) g_st (pc' := 12) rfl ?_
  intro h1 K2 A_n
  replace O_q := O_q.keep K2 (own_cons (by first | assumption | exact Ne.symm (by assumption) | exact Nat.ne_of_lt (by assumption) | exact Nat.ne_of_gt (by assumption)) own_nil)
  replace A_st := A_n
  exact WP.ret0 d5_12 rfl (by decide) (by decide) ⟨rfl, st, O_q, (by rw [← enc_cnt hy]; exact A_st), (by rw [cnt_len]; exact hS), g_q, g_st, n_qs⟩
theorem stp_met {l : Launch} {Z : State} {a0 : Array Value} (hw : HW Z a0) {n0 : Nat} {h : Heap} (q : Addr) (S : List Nat) (hI : G0 Z n0 h q S) (hT : tot S = 3) : OMet l (⟨"com/example/stampwise/stampwise/history/IntGroups", "startPlacing", "()V"⟩ : MethodName) B6 Z n0 #[(.ref q)] h (fun v h' => v = none ∧ G1 Z n0 h' q (sp S) (List.replicate 3 (.int 0))) := by
  refine OMet.of_wp (ls0 := #[.val (.ref q), .unset]) pl6 rfl rfl (fun m => own_entry 1 rfl rfl) ?_
  obtain ⟨st, O_q, A_st, hS, g_q, g_st, n_qs⟩ := hI
  obtain ⟨s0, s1, s2, s3, s4, rfl⟩ := own_len5 hS
  replace hT : s4 + (s3 + (s2 + (s1 + s0))) = 3 := hT
  obtain ⟨x0, hx0⟩ : ∃ x, x = Int32.ofNat s0 := ⟨_, rfl⟩
  have t_0 : x0.toInt = (s0 : Int) := by rw [hx0]; exact ofN (by omega)
  obtain ⟨x1, hx1⟩ : ∃ x, x = Int32.ofNat s1 := ⟨_, rfl⟩
  have t_1 : x1.toInt = (s1 : Int) := by rw [hx1]; exact ofN (by omega)
  obtain ⟨x2, hx2⟩ : ∃ x, x = Int32.ofNat s2 := ⟨_, rfl⟩
  have t_2 : x2.toInt = (s2 : Int) := by rw [hx2]; exact ofN (by omega)
  obtain ⟨x3, hx3⟩ : ∃ x, x = Int32.ofNat s3 := ⟨_, rfl⟩
  have t_3 : x3.toInt = (s3 : Int) := by rw [hx3]; exact ofN (by omega)
  obtain ⟨x4, hx4⟩ : ∃ x, x = Int32.ofNat s4 := ⟨_, rfl⟩
  have t_4 : x4.toInt = (s4 : Int) := by rw [hx4]; exact ofN (by omega)
  replace A_st : Av Z h st .int [(.int (Int32.ofNat s0)), (.int (Int32.ofNat s1)), (.int (Int32.ofNat s2)), (.int (Int32.ofNat s3)), (.int (Int32.ofNat s4))] := A_st
  rw [← hx0, ← hx1, ← hx2, ← hx3, ← hx4] at A_st
  have t1 : (x1 + x0).toInt = (s1 : Int) + s0 := by rw [own_iadd] <;> omega
  have t2 : (x2 + (x1 + x0)).toInt = (s2 : Int) + (s1 + s0) := by rw [own_iadd] <;> omega
  have t3 : (x3 + (x2 + (x1 + x0))).toInt = (s3 : Int) + (s2 + (s1 + s0)) := by rw [own_iadd] <;> omega
  have t4 : (x4 + (x3 + (x2 + (x1 + x0)))).toInt = (s4 : Int) + (s3 + (s2 + (s1 + s0))) := by rw [own_iadd] <;> omega
  have q1 : x1 + x0 = Int32.ofNat (s1 + s0) := own_e32 (by rw [t1, ofN (by omega)]; omega)
  have q2 : x2 + Int32.ofNat (s1 + s0) = Int32.ofNat (s2 + (s1 + s0)) := own_e32 (by rw [← q1, t2, ofN (by omega)]; omega)
  have q3 : x3 + Int32.ofNat (s2 + (s1 + s0)) = Int32.ofNat (s3 + (s2 + (s1 + s0))) := own_e32 (by rw [← q2, ← q1, t3, ofN (by omega)]; omega)
  have k32_0 : (0 : Int32).toInt = 0 := by decide
  have k32_1 : (1 : Int32).toInt = 1 := by decide
  have k32_2 : (2 : Int32).toInt = 2 := by decide
  have k32_3 : (3 : Int32).toInt = 3 := by decide
  have k32_4 : (4 : Int32).toInt = 4 := by decide
  have k32_5 : (5 : Int32).toInt = 5 := by decide
  refine WP.iconst d6_0 (z := (1 : Int32)) rfl (pc' := 1) rfl ?_
  refine WP.istoreN d6_1 (pc' := 2) rfl (ls' := #[.val (.ref q), .val (.int (1 : Int32))]) rfl ?_
  refine WP.iloadN d6_2 rfl (pc' := 3) rfl ?_
  refine WP.aloadN d6_3 rfl rfl (pc' := 4) rfl ?_
  refine WP.getf (i := 0) (v := (.ref st)) d6_4 (w18 hw) O_q rfl rfl (pc' := 7) rfl ?_
  refine WP.alen d6_7 A_st (k := (5 : Int32)) rfl (pc' := 8) rfl ?_
  refine WP.icmpGe d6_8 (tgt := 34) (by decide) (pc' := 11) rfl (fun c8 => ?_) (fun c8 => ?_)
  · exfalso; omega
  refine WP.aloadN d6_11 rfl rfl (pc' := 12) rfl ?_
  refine WP.getf (i := 0) (v := (.ref st)) d6_12 (w18 hw) O_q rfl rfl (pc' := 15) rfl ?_
  refine WP.iloadN d6_15 rfl (pc' := 16) rfl ?_
  refine WP.dup2 d6_16 rfl rfl (pc' := 17) rfl ?_
  refine WP.iaload 1 d6_17 A_st (x := x1) rfl rfl (pc' := 18) rfl ?_
  refine WP.aloadN d6_18 rfl rfl (pc' := 19) rfl ?_
  refine WP.getf (i := 0) (v := (.ref st)) d6_19 (w18 hw) O_q rfl rfl (pc' := 22) rfl ?_
  refine WP.iloadN d6_22 rfl (pc' := 23) rfl ?_
  refine WP.iconst d6_23 (z := (1 : Int32)) rfl (pc' := 24) rfl ?_
  refine WP.isub d6_24 (pc' := 25) rfl ?_
  rw [show (((1 : Int32) - (1 : Int32)) : Int32) = (0 : Int32) from by decide]
  refine WP.iaload 0 d6_25 A_st (x := x0) rfl rfl (pc' := 26) rfl ?_
  refine WP.iadd d6_26 (pc' := 27) rfl ?_
  refine WP.iastore 1 d6_27 A_st rfl (Nat.le_of_ble_eq_true rfl) g_st (pc' := 28) rfl ?_
  intro h1 K2 A_n
  replace O_q := O_q.keep K2 (own_cons (by first | assumption | exact Ne.symm (by assumption) | exact Nat.ne_of_lt (by assumption) | exact Nat.ne_of_gt (by assumption)) own_nil)
  replace A_st : Av Z h1 st .int [(.int x0), (.int (x1 + x0)), (.int x2), (.int x3), (.int x4)] := A_n
  clear A_n
  refine WP.iinc d6_28 (pc' := 31) rfl rfl (y := (2 : Int32)) (by decide) (ls' := #[.val (.ref q), .val (.int (2 : Int32))]) rfl ?_
  refine WP.goto d6_31 (pc' := 2) (by decide) ?_
  refine WP.iloadN d6_2 rfl (pc' := 3) rfl ?_
  refine WP.aloadN d6_3 rfl rfl (pc' := 4) rfl ?_
  refine WP.getf (i := 0) (v := (.ref st)) d6_4 (w18 hw) O_q rfl rfl (pc' := 7) rfl ?_
  refine WP.alen d6_7 A_st (k := (5 : Int32)) rfl (pc' := 8) rfl ?_
  refine WP.icmpGe d6_8 (tgt := 34) (by decide) (pc' := 11) rfl (fun c8 => ?_) (fun c8 => ?_)
  · exfalso; omega
  refine WP.aloadN d6_11 rfl rfl (pc' := 12) rfl ?_
  refine WP.getf (i := 0) (v := (.ref st)) d6_12 (w18 hw) O_q rfl rfl (pc' := 15) rfl ?_
  refine WP.iloadN d6_15 rfl (pc' := 16) rfl ?_
  refine WP.dup2 d6_16 rfl rfl (pc' := 17) rfl ?_
  refine WP.iaload 2 d6_17 A_st (x := x2) rfl rfl (pc' := 18) rfl ?_
  refine WP.aloadN d6_18 rfl rfl (pc' := 19) rfl ?_
  refine WP.getf (i := 0) (v := (.ref st)) d6_19 (w18 hw) O_q rfl rfl (pc' := 22) rfl ?_
  refine WP.iloadN d6_22 rfl (pc' := 23) rfl ?_
  refine WP.iconst d6_23 (z := (1 : Int32)) rfl (pc' := 24) rfl ?_
  refine WP.isub d6_24 (pc' := 25) rfl ?_
  rw [show (((2 : Int32) - (1 : Int32)) : Int32) = (1 : Int32) from by decide]
  refine WP.iaload 1 d6_25 A_st (x := (x1 + x0)) rfl rfl (pc' := 26) rfl ?_
  refine WP.iadd d6_26 (pc' := 27) rfl ?_
  refine WP.iastore 2 d6_27 A_st rfl (Nat.le_of_ble_eq_true rfl) g_st (pc' := 28) rfl ?_
  intro h3 K4 A_n
  replace O_q := O_q.keep K4 (own_cons (by first | assumption | exact Ne.symm (by assumption) | exact Nat.ne_of_lt (by assumption) | exact Nat.ne_of_gt (by assumption)) own_nil)
  replace A_st : Av Z h3 st .int [(.int x0), (.int (x1 + x0)), (.int (x2 + (x1 + x0))), (.int x3), (.int x4)] := A_n
  clear A_n
  refine WP.iinc d6_28 (pc' := 31) rfl rfl (y := (3 : Int32)) (by decide) (ls' := #[.val (.ref q), .val (.int (3 : Int32))]) rfl ?_
  refine WP.goto d6_31 (pc' := 2) (by decide) ?_
  refine WP.iloadN d6_2 rfl (pc' := 3) rfl ?_
  refine WP.aloadN d6_3 rfl rfl (pc' := 4) rfl ?_
  refine WP.getf (i := 0) (v := (.ref st)) d6_4 (w18 hw) O_q rfl rfl (pc' := 7) rfl ?_
  refine WP.alen d6_7 A_st (k := (5 : Int32)) rfl (pc' := 8) rfl ?_
  refine WP.icmpGe d6_8 (tgt := 34) (by decide) (pc' := 11) rfl (fun c8 => ?_) (fun c8 => ?_)
  · exfalso; omega
  refine WP.aloadN d6_11 rfl rfl (pc' := 12) rfl ?_
  refine WP.getf (i := 0) (v := (.ref st)) d6_12 (w18 hw) O_q rfl rfl (pc' := 15) rfl ?_
  refine WP.iloadN d6_15 rfl (pc' := 16) rfl ?_
  refine WP.dup2 d6_16 rfl rfl (pc' := 17) rfl ?_
  refine WP.iaload 3 d6_17 A_st (x := x3) rfl rfl (pc' := 18) rfl ?_
  refine WP.aloadN d6_18 rfl rfl (pc' := 19) rfl ?_
  refine WP.getf (i := 0) (v := (.ref st)) d6_19 (w18 hw) O_q rfl rfl (pc' := 22) rfl ?_
  refine WP.iloadN d6_22 rfl (pc' := 23) rfl ?_
  refine WP.iconst d6_23 (z := (1 : Int32)) rfl (pc' := 24) rfl ?_
  refine WP.isub d6_24 (pc' := 25) rfl ?_
  rw [show (((3 : Int32) - (1 : Int32)) : Int32) = (2 : Int32) from by decide]
  refine WP.iaload 2 d6_25 A_st (x := (x2 + (x1 + x0))) rfl rfl (pc' := 26) rfl ?_
  refine WP.iadd d6_26 (pc' := 27) rfl ?_
  refine WP.iastore 3 d6_27 A_st rfl (Nat.le_of_ble_eq_true rfl) g_st (pc' := 28) rfl ?_
  intro h5 K6 A_n
  replace O_q := O_q.keep K6 (own_cons (by first | assumption | exact Ne.symm (by assumption) | exact Nat.ne_of_lt (by assumption) | exact Nat.ne_of_gt (by assumption)) own_nil)
  replace A_st : Av Z h5 st .int [(.int x0), (.int (x1 + x0)), (.int (x2 + (x1 + x0))), (.int (x3 + (x2 + (x1 + x0)))), (.int x4)] := A_n
  clear A_n
  refine WP.iinc d6_28 (pc' := 31) rfl rfl (y := (4 : Int32)) (by decide) (ls' := #[.val (.ref q), .val (.int (4 : Int32))]) rfl ?_
  refine WP.goto d6_31 (pc' := 2) (by decide) ?_
  refine WP.iloadN d6_2 rfl (pc' := 3) rfl ?_
  refine WP.aloadN d6_3 rfl rfl (pc' := 4) rfl ?_
  refine WP.getf (i := 0) (v := (.ref st)) d6_4 (w18 hw) O_q rfl rfl (pc' := 7) rfl ?_
  refine WP.alen d6_7 A_st (k := (5 : Int32)) rfl (pc' := 8) rfl ?_
  refine WP.icmpGe d6_8 (tgt := 34) (by decide) (pc' := 11) rfl (fun c8 => ?_) (fun c8 => ?_)
  · exfalso; omega
  refine WP.aloadN d6_11 rfl rfl (pc' := 12) rfl ?_
  refine WP.getf (i := 0) (v := (.ref st)) d6_12 (w18 hw) O_q rfl rfl (pc' := 15) rfl ?_
  refine WP.iloadN d6_15 rfl (pc' := 16) rfl ?_
  refine WP.dup2 d6_16 rfl rfl (pc' := 17) rfl ?_
  refine WP.iaload 4 d6_17 A_st (x := x4) rfl rfl (pc' := 18) rfl ?_
  refine WP.aloadN d6_18 rfl rfl (pc' := 19) rfl ?_
  refine WP.getf (i := 0) (v := (.ref st)) d6_19 (w18 hw) O_q rfl rfl (pc' := 22) rfl ?_
  refine WP.iloadN d6_22 rfl (pc' := 23) rfl ?_
  refine WP.iconst d6_23 (z := (1 : Int32)) rfl (pc' := 24) rfl ?_
  refine WP.isub d6_24 (pc' := 25) rfl ?_
  rw [show (((4 : Int32) - (1 : Int32)) : Int32) = (3 : Int32) from by decide]
  refine WP.iaload 3 d6_25 A_st (x := (x3 + (x2 + (x1 + x0)))) rfl rfl (pc' := 26) rfl ?_
  refine WP.iadd d6_26 (pc' := 27) rfl ?_
  refine WP.iastore 4 d6_27 A_st rfl (Nat.le_of_ble_eq_true rfl) g_st (pc' := 28) rfl ?_
  intro h7 K8 A_n
  replace O_q := O_q.keep K8 (own_cons (by first | assumption | exact Ne.symm (by assumption) | exact Nat.ne_of_lt (by assumption) | exact Nat.ne_of_gt (by assumption)) own_nil)
  replace A_st : Av Z h7 st .int [(.int x0), (.int (x1 + x0)), (.int (x2 + (x1 + x0))), (.int (x3 + (x2 + (x1 + x0)))), (.int (x4 + (x3 + (x2 + (x1 + x0)))))] := A_n
  clear A_n
  refine WP.iinc d6_28 (pc' := 31) rfl rfl (y := (5 : Int32)) (by decide) (ls' := #[.val (.ref q), .val (.int (5 : Int32))]) rfl ?_
  refine WP.goto d6_31 (pc' := 2) (by decide) ?_
  refine WP.iloadN d6_2 rfl (pc' := 3) rfl ?_
  refine WP.aloadN d6_3 rfl rfl (pc' := 4) rfl ?_
  refine WP.getf (i := 0) (v := (.ref st)) d6_4 (w18 hw) O_q rfl rfl (pc' := 7) rfl ?_
  refine WP.alen d6_7 A_st (k := (5 : Int32)) rfl (pc' := 8) rfl ?_
  refine WP.icmpGe d6_8 (tgt := 34) (by decide) (pc' := 11) rfl (fun c8 => ?_) (fun c8 => ?_)
  ·
    refine WP.aloadN d6_34 rfl rfl (pc' := 35) rfl ?_
    refine WP.aloadN d6_35 rfl rfl (pc' := 36) rfl ?_
    refine WP.getf (i := 0) (v := (.ref st)) d6_36 (w18 hw) O_q rfl rfl (pc' := 39) rfl ?_
    refine WP.aloadN d6_39 rfl rfl (pc' := 40) rfl ?_
    refine WP.getf (i := 0) (v := (.ref st)) d6_40 (w18 hw) O_q rfl rfl (pc' := 43) rfl ?_
    refine WP.alen d6_43 A_st (k := (5 : Int32)) rfl (pc' := 44) rfl ?_
    refine WP.iconst d6_44 (z := (1 : Int32)) rfl (pc' := 45) rfl ?_
    refine WP.isub d6_45 (pc' := 46) rfl ?_
    rw [show (((5 : Int32) - (1 : Int32)) : Int32) = (4 : Int32) from by decide]
    refine WP.iaload 4 d6_46 A_st (x := (x4 + (x3 + (x2 + (x1 + x0))))) rfl rfl (pc' := 47) rfl ?_
    have hT : (x4 + (x3 + (x2 + (x1 + x0)))).toInt = ((3 : Nat) : Int) := by rw [t4]; omega
    refine WP.newarr d6_47 (w1 hw) (k := 3) hT 3 (by decide) (by decide) (by decide) (by decide) (pc' := 49) rfl ?_
    intro va h9 eb_va g_va K10 A_va
    replace A_va : Av Z h9 va .int (List.replicate 3 (.int 0)) := A_va
    have lt_q_va : q < va := by rw [eb_va]; exact O_q.lt
    have lt_st_va : st < va := by rw [eb_va]; exact A_st.lt
    replace O_q := O_q.keep K10 own_nil
    replace A_st := A_st.keep K10 own_nil
    refine WP.putf (i := 1) d6_49 (w30 hw) O_q (lay_IG hw) (by decide) rfl (Or.inl (w31 hw)) (w10 hw) (t := (.array .int)) (by decide) rfl rfl g_q (pc' := 52) rfl ?_
    intro h11 K12 O_n
    replace A_st := A_st.keep K12 (own_cons (by first | assumption | exact Ne.symm (by assumption) | exact Nat.ne_of_lt (by assumption) | exact Nat.ne_of_gt (by assumption)) own_nil)
    replace A_va := A_va.keep K12 (own_cons (by first | assumption | exact Ne.symm (by assumption) | exact Nat.ne_of_lt (by assumption) | exact Nat.ne_of_gt (by assumption)) own_nil)
    replace O_q : Ob Z h11 q "com/example/stampwise/stampwise/history/IntGroups" L_IG [(.ref st), (.ref va)] := O_n
    clear O_n
    refine WP.aloadN d6_52 rfl rfl (pc' := 53) rfl ?_
    refine WP.getf (i := 0) (v := (.ref st)) d6_53 (w18 hw) O_q rfl rfl (pc' := 56) rfl ?_
    refine WP.iconst d6_56 (z := (0 : Int32)) rfl (pc' := 57) rfl ?_
    refine WP.aloadN d6_57 rfl rfl (pc' := 58) rfl ?_
    refine WP.getf (i := 0) (v := (.ref st)) d6_58 (w18 hw) O_q rfl rfl (pc' := 61) rfl ?_
    refine WP.iconst d6_61 (z := (1 : Int32)) rfl (pc' := 62) rfl ?_
    refine WP.aloadN d6_62 rfl rfl (pc' := 63) rfl ?_
    refine WP.getf (i := 0) (v := (.ref st)) d6_63 (w18 hw) O_q rfl rfl (pc' := 66) rfl ?_
    refine WP.alen d6_66 A_st (k := (5 : Int32)) rfl (pc' := 67) rfl ?_
    refine WP.iconst d6_67 (z := (1 : Int32)) rfl (pc' := 68) rfl ?_
    refine WP.isub d6_68 (pc' := 69) rfl ?_
    rw [show (((5 : Int32) - (1 : Int32)) : Int32) = (4 : Int32) from by decide]
    refine WP.acopy 0 1 4 d6_69 (w32 hw) (w35 hw) (w33 hw) (w34 hw) A_st A_st rfl rfl rfl rfl (Nat.le_of_ble_eq_true rfl) (Nat.le_of_ble_eq_true rfl) (fun q v hv => by have hm := List.mem_of_getElem? hv; simp only [List.mem_cons, List.not_mem_nil, or_false] at hm; rcases hm with rfl | rfl | rfl | rfl | rfl <;> rfl) g_st rfl (by decide) (Nat.le_of_ble_eq_true rfl) (pc' := 72) rfl ?_
    intro h13 us K14 A_n hl_us hg_us
    replace O_q := O_q.keep K14 (own_cons (by first | assumption | exact Ne.symm (by assumption) | exact Nat.ne_of_lt (by assumption) | exact Nat.ne_of_gt (by assumption)) own_nil)
    replace A_va := A_va.keep K14 (own_cons (by first | assumption | exact Ne.symm (by assumption) | exact Nat.ne_of_lt (by assumption) | exact Nat.ne_of_gt (by assumption)) own_nil)
    replace A_st := A_n
    obtain rfl : us = [(.int x0), (.int x0), (.int (x1 + x0)), (.int (x2 + (x1 + x0))), (.int (x3 + (x2 + (x1 + x0))))] := own_l5 hl_us rfl (fun i hi => by rcases (by omega : i = 0 ∨ i = 1 ∨ i = 2 ∨ i = 3 ∨ i = 4) with rfl | rfl | rfl | rfl | rfl <;> (rw [hg_us]; rfl))
    exact WP.ret0 d6_72 rfl (by decide) (by decide) ⟨rfl, st, va, O_q, (by rw [q1, q2, q3, hx0] at A_st; exact A_st), A_va, rfl, g_q, g_st, g_va, n_qs, (by first | assumption | exact Ne.symm (by assumption) | exact Nat.ne_of_lt (by assumption) | exact Nat.ne_of_gt (by assumption)), (by first | assumption | exact Ne.symm (by assumption) | exact Nat.ne_of_lt (by assumption) | exact Nat.ne_of_gt (by assumption))⟩
  exfalso; omega
theorem plc_met {l : Launch} {Z : State} {a0 : Array Value} (hw : HW Z a0) {n0 : Nat} {h : Heap} (q : Addr) (k x : Int32) (n : Nat) (S : List Nat) (W : List Value) (hI : G1 Z n0 h q S W) (hk : k.toInt = (n : Int)) (hn : n < 4) (hy : S.getD (n + 1) 0 < 1000) (hW : S.getD (n + 1) 0 < W.length) : OMet l (⟨"com/example/stampwise/stampwise/history/IntGroups", "place", "(II)I"⟩ : MethodName) B7 Z n0 #[(.ref q), (.int k), (.int x)] h (fun v h' => ∃ r : Int32, v = some (.int r) ∧ r.toInt = (S.getD (n + 1) 0 : Int) ∧ G1 Z n0 h' q (cnt S n) (W.set (S.getD (n + 1) 0) (.int x))) := by
  refine OMet.of_wp (ls0 := #[.val (.ref q), .val (.int k), .val (.int x), .unset]) pl7 rfl rfl (fun m => own_entry 1 rfl rfl) ?_
  obtain ⟨st, va, O_q, A_st, A_va, hS, g_q, g_st, g_va, n_qs, n_qv, n_sv⟩ := hI
  have k32_1 : (1 : Int32).toInt = 1 := by decide
  refine WP.aloadN d7_0 rfl rfl (pc' := 1) rfl ?_
  refine WP.getf (i := 0) (v := (.ref st)) d7_1 (w18 hw) O_q rfl rfl (pc' := 4) rfl ?_
  refine WP.iloadN d7_4 rfl (pc' := 5) rfl ?_
  refine WP.iconst d7_5 (z := (1 : Int32)) rfl (pc' := 6) rfl ?_
  refine WP.iadd d7_6 (pc' := 7) rfl ?_
  have f1 : (k + (1 : Int32)).toInt = ((n + 1 : Nat) : Int) := by rw [own_iadd] <;> omega
  refine WP.iaload (n + 1) d7_7 A_st (x := (Int32.ofNat (S.getD (n + 1) 0))) f1 (enc_get (by omega)) (pc' := 8) rfl ?_
  obtain ⟨y, e_y⟩ : ∃ z, z = (Int32.ofNat (S.getD (n + 1) 0)) := ⟨_, rfl⟩
  rw [← e_y]
  refine WP.istoreN d7_8 (pc' := 9) rfl (ls' := #[.val (.ref q), .val (.int k), .val (.int x), .val (.int y)]) rfl ?_
  refine WP.aloadN d7_9 rfl rfl (pc' := 10) rfl ?_
  refine WP.getf (i := 1) (v := (.ref va)) d7_10 (w30 hw) O_q rfl rfl (pc' := 13) rfl ?_
  refine WP.iloadN d7_13 rfl (pc' := 14) rfl ?_
  refine WP.iloadN d7_14 rfl (pc' := 15) rfl ?_
  refine WP.iastore (S.getD (n + 1) 0) d7_15 A_va (by rw [e_y]; exact ofN (by omega)) hW g_va (pc' := 16) rfl ?_
  intro h1 K2 A_n
  replace O_q := O_q.keep K2 (own_cons (by first | assumption | exact Ne.symm (by assumption) | exact Nat.ne_of_lt (by assumption) | exact Nat.ne_of_gt (by assumption)) own_nil)
  replace A_st := A_st.keep K2 (own_cons (by first | assumption | exact Ne.symm (by assumption) | exact Nat.ne_of_lt (by assumption) | exact Nat.ne_of_gt (by assumption)) own_nil)
  replace A_va := A_n
  refine WP.aloadN d7_16 rfl rfl (pc' := 17) rfl ?_
  refine WP.getf (i := 0) (v := (.ref st)) d7_17 (w18 hw) O_q rfl rfl (pc' := 20) rfl ?_
  refine WP.iloadN d7_20 rfl (pc' := 21) rfl ?_
  refine WP.iconst d7_21 (z := (1 : Int32)) rfl (pc' := 22) rfl ?_
  refine WP.iadd d7_22 (pc' := 23) rfl ?_
  refine WP.dup2 d7_23 rfl rfl (pc' := 24) rfl ?_
  refine WP.iaload (n + 1) d7_24 A_st (x := (Int32.ofNat (S.getD (n + 1) 0))) f1 (enc_get (by omega)) (pc' := 25) rfl ?_
  refine WP.iconst d7_25 (z := (1 : Int32)) rfl (pc' := 26) rfl ?_
  refine WP.iadd d7_26 (pc' := 27) rfl ?_
  refine WP.iastore (n + 1) d7_27 A_st f1 (by rw [enc_len]; omega) g_st (pc' := 28) rfl ?_
  intro h3 K4 A_n
  replace O_q := O_q.keep K4 (own_cons (by first | assumption | exact Ne.symm (by assumption) | exact Nat.ne_of_lt (by assumption) | exact Nat.ne_of_gt (by assumption)) own_nil)
  replace A_va := A_va.keep K4 (own_cons (by first | assumption | exact Ne.symm (by assumption) | exact Nat.ne_of_lt (by assumption) | exact Nat.ne_of_gt (by assumption)) own_nil)
  replace A_st := A_n
  refine WP.iloadN d7_28 rfl (pc' := 29) rfl ?_
  exact WP.retI d7_29 rfl (by decide) (by decide) ⟨_, rfl, (by rw [e_y]; exact ofN (by omega)), st, va, O_q, (by rw [← enc_cnt hy]; exact A_st), A_va, (by rw [cnt_len]; exact hS), g_q, g_st, g_va, n_qs, n_qv, n_sv⟩
theorem vls_met {l : Launch} {Z : State} {a0 : Array Value} (hw : HW Z a0) {n0 : Nat} {h : Heap} (q : Addr) (S : List Nat) (W : List Value) (hI : G1 Z n0 h q S W) : OMet l (⟨"com/example/stampwise/stampwise/history/IntGroups", "values", "()[I"⟩ : MethodName) B8 Z n0 #[(.ref q)] h (fun v h' => ∃ va : Addr, v = some (.ref va) ∧ Av Z h' va .int W ∧ G1 Z n0 h' q S W) := by
  refine OMet.of_wp (ls0 := #[.val (.ref q)]) pl8 rfl rfl (fun m => own_entry 0 rfl rfl) ?_
  have hI := id hI
  obtain ⟨st, va, O_q, A_st, A_va, hS, g_q, g_st, g_va, n_qs, n_qv, n_sv⟩ := id hI
  refine WP.aloadN d8_0 rfl rfl (pc' := 1) rfl ?_
  refine WP.getf (i := 1) (v := (.ref va)) d8_1 (w30 hw) O_q rfl rfl (pc' := 4) rfl ?_
  exact WP.retA d8_4 rfl rfl rfl (by decide) (by decide) ⟨va, rfl, A_va, hI⟩
theorem sta_met {l : Launch} {Z : State} {a0 : Array Value} (hw : HW Z a0) {n0 : Nat} {h : Heap} (q : Addr) (k : Int32) (n : Nat) (S : List Nat) (W : List Value) (hI : G1 Z n0 h q S W) (hk : k.toInt = (n : Int)) (hn : n < 5) (hy : S.getD n 0 < 1000) : OMet l (⟨"com/example/stampwise/stampwise/history/IntGroups", "start", "(I)I"⟩ : MethodName) B9 Z n0 #[(.ref q), (.int k)] h (fun v h' => ∃ r : Int32, v = some (.int r) ∧ r.toInt = (S.getD n 0 : Int)) := by
  refine OMet.of_wp (ls0 := #[.val (.ref q), .val (.int k)]) pl9 rfl rfl (fun m => own_entry 0 rfl rfl) ?_
  obtain ⟨st, va, O_q, A_st, A_va, hS, g_q, g_st, g_va, n_qs, n_qv, n_sv⟩ := hI
  refine WP.aloadN d9_0 rfl rfl (pc' := 1) rfl ?_
  refine WP.getf (i := 0) (v := (.ref st)) d9_1 (w18 hw) O_q rfl rfl (pc' := 4) rfl ?_
  refine WP.iloadN d9_4 rfl (pc' := 5) rfl ?_
  refine WP.iaload n d9_5 A_st (x := (Int32.ofNat (S.getD n 0))) hk (enc_get (by omega)) (pc' := 6) rfl ?_
  exact WP.retI d9_6 rfl (by decide) (by decide) ⟨_, rfl, ofN (by omega)⟩
theorem pure_0 : ∀ m0 m1 m2 : Fin 4, ([0, 0, 0, 0, 0].getD (m0.1 + 1) 0 < 1000 ∧ (cnt [0, 0, 0, 0, 0] m0.1).getD (m1.1 + 1) 0 < 1000 ∧ (cnt (cnt [0, 0, 0, 0, 0] m0.1) m1.1).getD (m2.1 + 1) 0 < 1000 ∧ tot (cnt (cnt (cnt [0, 0, 0, 0, 0] m0.1) m1.1) m2.1) = 3 ∧ (sp (cnt (cnt (cnt [0, 0, 0, 0, 0] m0.1) m1.1) m2.1)).getD (m0.1 + 1) 0 < 3 ∧ (cnt (sp (cnt (cnt (cnt [0, 0, 0, 0, 0] m0.1) m1.1) m2.1)) m0.1).getD (m1.1 + 1) 0 < 3 ∧ (cnt (cnt (sp (cnt (cnt (cnt [0, 0, 0, 0, 0] m0.1) m1.1) m2.1)) m0.1) m1.1).getD (m2.1 + 1) 0 < 3 ∧ (sp (cnt (cnt (cnt [0, 0, 0, 0, 0] m0.1) m1.1) m2.1)).getD (m0.1 + 1) 0 = bel m0.1 m1.1 m2.1 m0.1 ∧ (cnt (sp (cnt (cnt (cnt [0, 0, 0, 0, 0] m0.1) m1.1) m2.1)) m0.1).getD (m1.1 + 1) 0 = bel m0.1 m1.1 m2.1 m1.1 + sam m0.1 m1.1 ∧ (cnt (cnt (sp (cnt (cnt (cnt [0, 0, 0, 0, 0] m0.1) m1.1) m2.1)) m0.1) m1.1).getD (m2.1 + 1) 0 = bel m0.1 m1.1 m2.1 m2.1 + sam m0.1 m2.1 + sam m1.1 m2.1 ∧ (sp (cnt (cnt (cnt [0, 0, 0, 0, 0] m0.1) m1.1) m2.1)).getD (m0.1 + 1) 0 ≠ (cnt (sp (cnt (cnt (cnt [0, 0, 0, 0, 0] m0.1) m1.1) m2.1)) m0.1).getD (m1.1 + 1) 0 ∧ (sp (cnt (cnt (cnt [0, 0, 0, 0, 0] m0.1) m1.1) m2.1)).getD (m0.1 + 1) 0 ≠ (cnt (cnt (sp (cnt (cnt (cnt [0, 0, 0, 0, 0] m0.1) m1.1) m2.1)) m0.1) m1.1).getD (m2.1 + 1) 0 ∧ (cnt (sp (cnt (cnt (cnt [0, 0, 0, 0, 0] m0.1) m1.1) m2.1)) m0.1).getD (m1.1 + 1) 0 ≠ (cnt (cnt (sp (cnt (cnt (cnt [0, 0, 0, 0, 0] m0.1) m1.1) m2.1)) m0.1) m1.1).getD (m2.1 + 1) 0) ∧ ∀ j : Fin 5, (cnt (cnt (cnt (sp (cnt (cnt (cnt [0, 0, 0, 0, 0] m0.1) m1.1) m2.1)) m0.1) m1.1) m2.1).getD j.1 0 = bel m0.1 m1.1 m2.1 j.1 ∧ (cnt (cnt (cnt (sp (cnt (cnt (cnt [0, 0, 0, 0, 0] m0.1) m1.1) m2.1)) m0.1) m1.1) m2.1).getD j.1 0 < 1000 := by decide +kernel
theorem pure_1 : ∀ m0 m1 m2 : Fin 4, ([0, 0, 0, 0, 0].getD (m0.1 + 1) 0 < 1000 ∧ (cnt [0, 0, 0, 0, 0] m0.1).getD (m1.1 + 1) 0 < 1000 ∧ (cnt (cnt [0, 0, 0, 0, 0] m0.1) m1.1).getD (m2.1 + 1) 0 < 1000 ∧ tot (cnt (cnt (cnt [0, 0, 0, 0, 0] m0.1) m1.1) m2.1) = 3 ∧ (sp (cnt (cnt (cnt [0, 0, 0, 0, 0] m0.1) m1.1) m2.1)).getD (m0.1 + 1) 0 < 3 ∧ (cnt (sp (cnt (cnt (cnt [0, 0, 0, 0, 0] m0.1) m1.1) m2.1)) m0.1).getD (m2.1 + 1) 0 < 3 ∧ (cnt (cnt (sp (cnt (cnt (cnt [0, 0, 0, 0, 0] m0.1) m1.1) m2.1)) m0.1) m2.1).getD (m1.1 + 1) 0 < 3 ∧ (sp (cnt (cnt (cnt [0, 0, 0, 0, 0] m0.1) m1.1) m2.1)).getD (m0.1 + 1) 0 = bel m0.1 m1.1 m2.1 m0.1 ∧ (cnt (sp (cnt (cnt (cnt [0, 0, 0, 0, 0] m0.1) m1.1) m2.1)) m0.1).getD (m2.1 + 1) 0 = bel m0.1 m1.1 m2.1 m2.1 + sam m0.1 m2.1 ∧ (cnt (cnt (sp (cnt (cnt (cnt [0, 0, 0, 0, 0] m0.1) m1.1) m2.1)) m0.1) m2.1).getD (m1.1 + 1) 0 = bel m0.1 m1.1 m2.1 m1.1 + sam m0.1 m1.1 + sam m2.1 m1.1 ∧ (sp (cnt (cnt (cnt [0, 0, 0, 0, 0] m0.1) m1.1) m2.1)).getD (m0.1 + 1) 0 ≠ (cnt (sp (cnt (cnt (cnt [0, 0, 0, 0, 0] m0.1) m1.1) m2.1)) m0.1).getD (m2.1 + 1) 0 ∧ (sp (cnt (cnt (cnt [0, 0, 0, 0, 0] m0.1) m1.1) m2.1)).getD (m0.1 + 1) 0 ≠ (cnt (cnt (sp (cnt (cnt (cnt [0, 0, 0, 0, 0] m0.1) m1.1) m2.1)) m0.1) m2.1).getD (m1.1 + 1) 0 ∧ (cnt (sp (cnt (cnt (cnt [0, 0, 0, 0, 0] m0.1) m1.1) m2.1)) m0.1).getD (m2.1 + 1) 0 ≠ (cnt (cnt (sp (cnt (cnt (cnt [0, 0, 0, 0, 0] m0.1) m1.1) m2.1)) m0.1) m2.1).getD (m1.1 + 1) 0) ∧ ∀ j : Fin 5, (cnt (cnt (cnt (sp (cnt (cnt (cnt [0, 0, 0, 0, 0] m0.1) m1.1) m2.1)) m0.1) m2.1) m1.1).getD j.1 0 = bel m0.1 m1.1 m2.1 j.1 ∧ (cnt (cnt (cnt (sp (cnt (cnt (cnt [0, 0, 0, 0, 0] m0.1) m1.1) m2.1)) m0.1) m2.1) m1.1).getD j.1 0 < 1000 := by decide +kernel
theorem pure_2 : ∀ m0 m1 m2 : Fin 4, ([0, 0, 0, 0, 0].getD (m0.1 + 1) 0 < 1000 ∧ (cnt [0, 0, 0, 0, 0] m0.1).getD (m1.1 + 1) 0 < 1000 ∧ (cnt (cnt [0, 0, 0, 0, 0] m0.1) m1.1).getD (m2.1 + 1) 0 < 1000 ∧ tot (cnt (cnt (cnt [0, 0, 0, 0, 0] m0.1) m1.1) m2.1) = 3 ∧ (sp (cnt (cnt (cnt [0, 0, 0, 0, 0] m0.1) m1.1) m2.1)).getD (m1.1 + 1) 0 < 3 ∧ (cnt (sp (cnt (cnt (cnt [0, 0, 0, 0, 0] m0.1) m1.1) m2.1)) m1.1).getD (m0.1 + 1) 0 < 3 ∧ (cnt (cnt (sp (cnt (cnt (cnt [0, 0, 0, 0, 0] m0.1) m1.1) m2.1)) m1.1) m0.1).getD (m2.1 + 1) 0 < 3 ∧ (sp (cnt (cnt (cnt [0, 0, 0, 0, 0] m0.1) m1.1) m2.1)).getD (m1.1 + 1) 0 = bel m0.1 m1.1 m2.1 m1.1 ∧ (cnt (sp (cnt (cnt (cnt [0, 0, 0, 0, 0] m0.1) m1.1) m2.1)) m1.1).getD (m0.1 + 1) 0 = bel m0.1 m1.1 m2.1 m0.1 + sam m1.1 m0.1 ∧ (cnt (cnt (sp (cnt (cnt (cnt [0, 0, 0, 0, 0] m0.1) m1.1) m2.1)) m1.1) m0.1).getD (m2.1 + 1) 0 = bel m0.1 m1.1 m2.1 m2.1 + sam m1.1 m2.1 + sam m0.1 m2.1 ∧ (sp (cnt (cnt (cnt [0, 0, 0, 0, 0] m0.1) m1.1) m2.1)).getD (m1.1 + 1) 0 ≠ (cnt (sp (cnt (cnt (cnt [0, 0, 0, 0, 0] m0.1) m1.1) m2.1)) m1.1).getD (m0.1 + 1) 0 ∧ (sp (cnt (cnt (cnt [0, 0, 0, 0, 0] m0.1) m1.1) m2.1)).getD (m1.1 + 1) 0 ≠ (cnt (cnt (sp (cnt (cnt (cnt [0, 0, 0, 0, 0] m0.1) m1.1) m2.1)) m1.1) m0.1).getD (m2.1 + 1) 0 ∧ (cnt (sp (cnt (cnt (cnt [0, 0, 0, 0, 0] m0.1) m1.1) m2.1)) m1.1).getD (m0.1 + 1) 0 ≠ (cnt (cnt (sp (cnt (cnt (cnt [0, 0, 0, 0, 0] m0.1) m1.1) m2.1)) m1.1) m0.1).getD (m2.1 + 1) 0) ∧ ∀ j : Fin 5, (cnt (cnt (cnt (sp (cnt (cnt (cnt [0, 0, 0, 0, 0] m0.1) m1.1) m2.1)) m1.1) m0.1) m2.1).getD j.1 0 = bel m0.1 m1.1 m2.1 j.1 ∧ (cnt (cnt (cnt (sp (cnt (cnt (cnt [0, 0, 0, 0, 0] m0.1) m1.1) m2.1)) m1.1) m0.1) m2.1).getD j.1 0 < 1000 := by decide +kernel
theorem pure_3 : ∀ m0 m1 m2 : Fin 4, ([0, 0, 0, 0, 0].getD (m0.1 + 1) 0 < 1000 ∧ (cnt [0, 0, 0, 0, 0] m0.1).getD (m1.1 + 1) 0 < 1000 ∧ (cnt (cnt [0, 0, 0, 0, 0] m0.1) m1.1).getD (m2.1 + 1) 0 < 1000 ∧ tot (cnt (cnt (cnt [0, 0, 0, 0, 0] m0.1) m1.1) m2.1) = 3 ∧ (sp (cnt (cnt (cnt [0, 0, 0, 0, 0] m0.1) m1.1) m2.1)).getD (m1.1 + 1) 0 < 3 ∧ (cnt (sp (cnt (cnt (cnt [0, 0, 0, 0, 0] m0.1) m1.1) m2.1)) m1.1).getD (m2.1 + 1) 0 < 3 ∧ (cnt (cnt (sp (cnt (cnt (cnt [0, 0, 0, 0, 0] m0.1) m1.1) m2.1)) m1.1) m2.1).getD (m0.1 + 1) 0 < 3 ∧ (sp (cnt (cnt (cnt [0, 0, 0, 0, 0] m0.1) m1.1) m2.1)).getD (m1.1 + 1) 0 = bel m0.1 m1.1 m2.1 m1.1 ∧ (cnt (sp (cnt (cnt (cnt [0, 0, 0, 0, 0] m0.1) m1.1) m2.1)) m1.1).getD (m2.1 + 1) 0 = bel m0.1 m1.1 m2.1 m2.1 + sam m1.1 m2.1 ∧ (cnt (cnt (sp (cnt (cnt (cnt [0, 0, 0, 0, 0] m0.1) m1.1) m2.1)) m1.1) m2.1).getD (m0.1 + 1) 0 = bel m0.1 m1.1 m2.1 m0.1 + sam m1.1 m0.1 + sam m2.1 m0.1 ∧ (sp (cnt (cnt (cnt [0, 0, 0, 0, 0] m0.1) m1.1) m2.1)).getD (m1.1 + 1) 0 ≠ (cnt (sp (cnt (cnt (cnt [0, 0, 0, 0, 0] m0.1) m1.1) m2.1)) m1.1).getD (m2.1 + 1) 0 ∧ (sp (cnt (cnt (cnt [0, 0, 0, 0, 0] m0.1) m1.1) m2.1)).getD (m1.1 + 1) 0 ≠ (cnt (cnt (sp (cnt (cnt (cnt [0, 0, 0, 0, 0] m0.1) m1.1) m2.1)) m1.1) m2.1).getD (m0.1 + 1) 0 ∧ (cnt (sp (cnt (cnt (cnt [0, 0, 0, 0, 0] m0.1) m1.1) m2.1)) m1.1).getD (m2.1 + 1) 0 ≠ (cnt (cnt (sp (cnt (cnt (cnt [0, 0, 0, 0, 0] m0.1) m1.1) m2.1)) m1.1) m2.1).getD (m0.1 + 1) 0) ∧ ∀ j : Fin 5, (cnt (cnt (cnt (sp (cnt (cnt (cnt [0, 0, 0, 0, 0] m0.1) m1.1) m2.1)) m1.1) m2.1) m0.1).getD j.1 0 = bel m0.1 m1.1 m2.1 j.1 ∧ (cnt (cnt (cnt (sp (cnt (cnt (cnt [0, 0, 0, 0, 0] m0.1) m1.1) m2.1)) m1.1) m2.1) m0.1).getD j.1 0 < 1000 := by decide +kernel
theorem pure_4 : ∀ m0 m1 m2 : Fin 4, ([0, 0, 0, 0, 0].getD (m0.1 + 1) 0 < 1000 ∧ (cnt [0, 0, 0, 0, 0] m0.1).getD (m1.1 + 1) 0 < 1000 ∧ (cnt (cnt [0, 0, 0, 0, 0] m0.1) m1.1).getD (m2.1 + 1) 0 < 1000 ∧ tot (cnt (cnt (cnt [0, 0, 0, 0, 0] m0.1) m1.1) m2.1) = 3 ∧ (sp (cnt (cnt (cnt [0, 0, 0, 0, 0] m0.1) m1.1) m2.1)).getD (m2.1 + 1) 0 < 3 ∧ (cnt (sp (cnt (cnt (cnt [0, 0, 0, 0, 0] m0.1) m1.1) m2.1)) m2.1).getD (m0.1 + 1) 0 < 3 ∧ (cnt (cnt (sp (cnt (cnt (cnt [0, 0, 0, 0, 0] m0.1) m1.1) m2.1)) m2.1) m0.1).getD (m1.1 + 1) 0 < 3 ∧ (sp (cnt (cnt (cnt [0, 0, 0, 0, 0] m0.1) m1.1) m2.1)).getD (m2.1 + 1) 0 = bel m0.1 m1.1 m2.1 m2.1 ∧ (cnt (sp (cnt (cnt (cnt [0, 0, 0, 0, 0] m0.1) m1.1) m2.1)) m2.1).getD (m0.1 + 1) 0 = bel m0.1 m1.1 m2.1 m0.1 + sam m2.1 m0.1 ∧ (cnt (cnt (sp (cnt (cnt (cnt [0, 0, 0, 0, 0] m0.1) m1.1) m2.1)) m2.1) m0.1).getD (m1.1 + 1) 0 = bel m0.1 m1.1 m2.1 m1.1 + sam m2.1 m1.1 + sam m0.1 m1.1 ∧ (sp (cnt (cnt (cnt [0, 0, 0, 0, 0] m0.1) m1.1) m2.1)).getD (m2.1 + 1) 0 ≠ (cnt (sp (cnt (cnt (cnt [0, 0, 0, 0, 0] m0.1) m1.1) m2.1)) m2.1).getD (m0.1 + 1) 0 ∧ (sp (cnt (cnt (cnt [0, 0, 0, 0, 0] m0.1) m1.1) m2.1)).getD (m2.1 + 1) 0 ≠ (cnt (cnt (sp (cnt (cnt (cnt [0, 0, 0, 0, 0] m0.1) m1.1) m2.1)) m2.1) m0.1).getD (m1.1 + 1) 0 ∧ (cnt (sp (cnt (cnt (cnt [0, 0, 0, 0, 0] m0.1) m1.1) m2.1)) m2.1).getD (m0.1 + 1) 0 ≠ (cnt (cnt (sp (cnt (cnt (cnt [0, 0, 0, 0, 0] m0.1) m1.1) m2.1)) m2.1) m0.1).getD (m1.1 + 1) 0) ∧ ∀ j : Fin 5, (cnt (cnt (cnt (sp (cnt (cnt (cnt [0, 0, 0, 0, 0] m0.1) m1.1) m2.1)) m2.1) m0.1) m1.1).getD j.1 0 = bel m0.1 m1.1 m2.1 j.1 ∧ (cnt (cnt (cnt (sp (cnt (cnt (cnt [0, 0, 0, 0, 0] m0.1) m1.1) m2.1)) m2.1) m0.1) m1.1).getD j.1 0 < 1000 := by decide +kernel
theorem pure_5 : ∀ m0 m1 m2 : Fin 4, ([0, 0, 0, 0, 0].getD (m0.1 + 1) 0 < 1000 ∧ (cnt [0, 0, 0, 0, 0] m0.1).getD (m1.1 + 1) 0 < 1000 ∧ (cnt (cnt [0, 0, 0, 0, 0] m0.1) m1.1).getD (m2.1 + 1) 0 < 1000 ∧ tot (cnt (cnt (cnt [0, 0, 0, 0, 0] m0.1) m1.1) m2.1) = 3 ∧ (sp (cnt (cnt (cnt [0, 0, 0, 0, 0] m0.1) m1.1) m2.1)).getD (m2.1 + 1) 0 < 3 ∧ (cnt (sp (cnt (cnt (cnt [0, 0, 0, 0, 0] m0.1) m1.1) m2.1)) m2.1).getD (m1.1 + 1) 0 < 3 ∧ (cnt (cnt (sp (cnt (cnt (cnt [0, 0, 0, 0, 0] m0.1) m1.1) m2.1)) m2.1) m1.1).getD (m0.1 + 1) 0 < 3 ∧ (sp (cnt (cnt (cnt [0, 0, 0, 0, 0] m0.1) m1.1) m2.1)).getD (m2.1 + 1) 0 = bel m0.1 m1.1 m2.1 m2.1 ∧ (cnt (sp (cnt (cnt (cnt [0, 0, 0, 0, 0] m0.1) m1.1) m2.1)) m2.1).getD (m1.1 + 1) 0 = bel m0.1 m1.1 m2.1 m1.1 + sam m2.1 m1.1 ∧ (cnt (cnt (sp (cnt (cnt (cnt [0, 0, 0, 0, 0] m0.1) m1.1) m2.1)) m2.1) m1.1).getD (m0.1 + 1) 0 = bel m0.1 m1.1 m2.1 m0.1 + sam m2.1 m0.1 + sam m1.1 m0.1 ∧ (sp (cnt (cnt (cnt [0, 0, 0, 0, 0] m0.1) m1.1) m2.1)).getD (m2.1 + 1) 0 ≠ (cnt (sp (cnt (cnt (cnt [0, 0, 0, 0, 0] m0.1) m1.1) m2.1)) m2.1).getD (m1.1 + 1) 0 ∧ (sp (cnt (cnt (cnt [0, 0, 0, 0, 0] m0.1) m1.1) m2.1)).getD (m2.1 + 1) 0 ≠ (cnt (cnt (sp (cnt (cnt (cnt [0, 0, 0, 0, 0] m0.1) m1.1) m2.1)) m2.1) m1.1).getD (m0.1 + 1) 0 ∧ (cnt (sp (cnt (cnt (cnt [0, 0, 0, 0, 0] m0.1) m1.1) m2.1)) m2.1).getD (m1.1 + 1) 0 ≠ (cnt (cnt (sp (cnt (cnt (cnt [0, 0, 0, 0, 0] m0.1) m1.1) m2.1)) m2.1) m1.1).getD (m0.1 + 1) 0) ∧ ∀ j : Fin 5, (cnt (cnt (cnt (sp (cnt (cnt (cnt [0, 0, 0, 0, 0] m0.1) m1.1) m2.1)) m2.1) m1.1) m0.1).getD j.1 0 = bel m0.1 m1.1 m2.1 j.1 ∧ (cnt (cnt (cnt (sp (cnt (cnt (cnt [0, 0, 0, 0, 0] m0.1) m1.1) m2.1)) m2.1) m1.1) m0.1).getD j.1 0 < 1000 := by decide +kernel
theorem law_40_0 {l : Launch} {Z : State} {a0 : Array Value} (hw : HW Z a0) {n0 : Nat} {h : Heap} (keys v0 v1 v2 perm k0 k1 k2 j : Int32) (m0 m1 m2 mj : Nat) (hk0 : k0.toInt = (m0 : Int)) (hk1 : k1.toInt = (m1 : Int)) (hk2 : k2.toInt = (m2 : Int)) (hj : j.toInt = (mj : Int)) (l0 : m0 < 4) (l1 : m1 < 4) (l2 : m2 < 4) (lj : mj < 5) : WP l B0 Z n0 (fun v h' => v = some (.int 1)) h 0 0 40 #[.val (.int keys), .val (.int v0), .val (.int v1), .val (.int v2), .val (.int perm), .val (.int k0), .val (.int k1), .val (.int k2), .val (.int j), .val (.int (0 : Int32)), .unset, .unset, .unset, .unset, .unset, .unset, .unset, .unset, .unset, .unset, .unset, .unset, .unset, .unset, .unset, .unset, .unset, .unset, .unset, .unset] [] := by
  have k32_0 : (0 : Int32).toInt = 0 := by decide
  have k32_1 : (1 : Int32).toInt = 1 := by decide
  have k32_2 : (2 : Int32).toInt = 2 := by decide
  have k32_3 : (3 : Int32).toInt = 3 := by decide
  have k32_4 : (4 : Int32).toInt = 4 := by decide
  have k32_5 : (5 : Int32).toInt = 5 := by decide
  have k32_6 : (6 : Int32).toInt = 6 := by decide
  have k32_7 : (7 : Int32).toInt = 7 := by decide
  have k32_8 : (8 : Int32).toInt = 8 := by decide
  have k32_9 : (9 : Int32).toInt = 9 := by decide
  have k32_10 : (10 : Int32).toInt = 10 := by decide
  have k32_11 : (11 : Int32).toInt = 11 := by decide
  have k32_12 : (12 : Int32).toInt = 12 := by decide
  have k32_13 : (13 : Int32).toInt = 13 := by decide
  have k32_14 : (14 : Int32).toInt = 14 := by decide
  have k32_15 : (15 : Int32).toInt = 15 := by decide
  have k32_16 : (16 : Int32).toInt = 16 := by decide
  have k32_17 : (17 : Int32).toInt = 17 := by decide
  have k32_18 : (18 : Int32).toInt = 18 := by decide
  refine WP.bipush at_40 (z := (18 : Int32)) rfl (pc' := 42) rfl ?_
  refine WP.newarr at_42 (w1 hw) (k := 18) rfl 18 (by decide) (by decide) (by decide) (by decide) (pc' := 44) rfl ?_
  intro b1 h1 eb_b1 g_b1 K2 A_b1
  replace A_b1 : Av Z h1 b1 .int [.int 0, .int 0, .int 0, .int 0, .int 0, .int 0, .int 0, .int 0, .int 0, .int 0, .int 0, .int 0, .int 0, .int 0, .int 0, .int 0, .int 0, .int 0] := A_b1
  refine WP.dup at_44 rfl (pc' := 45) rfl ?_
  refine WP.iconst at_45 (z := (0 : Int32)) rfl (pc' := 46) rfl ?_
  refine WP.iconst at_46 (z := (0 : Int32)) rfl (pc' := 47) rfl ?_
  refine WP.iastore 0 at_47 A_b1 rfl (Nat.le_of_ble_eq_true rfl) g_b1 (pc' := 48) rfl ?_
  intro h3 K4 A_n
  replace A_b1 : Av Z h3 b1 .int [(.int (0 : Int32)), (.int 0), (.int 0), (.int 0), (.int 0), (.int 0), (.int 0), (.int 0), (.int 0), (.int 0), (.int 0), (.int 0), (.int 0), (.int 0), (.int 0), (.int 0), (.int 0), (.int 0)] := A_n
  clear A_n
  refine WP.dup at_48 rfl (pc' := 49) rfl ?_
  refine WP.iconst at_49 (z := (1 : Int32)) rfl (pc' := 50) rfl ?_
  refine WP.iconst at_50 (z := (1 : Int32)) rfl (pc' := 51) rfl ?_
  refine WP.iastore 1 at_51 A_b1 rfl (Nat.le_of_ble_eq_true rfl) g_b1 (pc' := 52) rfl ?_
  intro h5 K6 A_n
  replace A_b1 : Av Z h5 b1 .int [(.int (0 : Int32)), (.int (1 : Int32)), (.int 0), (.int 0), (.int 0), (.int 0), (.int 0), (.int 0), (.int 0), (.int 0), (.int 0), (.int 0), (.int 0), (.int 0), (.int 0), (.int 0), (.int 0), (.int 0)] := A_n
  clear A_n
  refine WP.dup at_52 rfl (pc' := 53) rfl ?_
  refine WP.iconst at_53 (z := (2 : Int32)) rfl (pc' := 54) rfl ?_
  refine WP.iconst at_54 (z := (2 : Int32)) rfl (pc' := 55) rfl ?_
  refine WP.iastore 2 at_55 A_b1 rfl (Nat.le_of_ble_eq_true rfl) g_b1 (pc' := 56) rfl ?_
  intro h7 K8 A_n
  replace A_b1 : Av Z h7 b1 .int [(.int (0 : Int32)), (.int (1 : Int32)), (.int (2 : Int32)), (.int 0), (.int 0), (.int 0), (.int 0), (.int 0), (.int 0), (.int 0), (.int 0), (.int 0), (.int 0), (.int 0), (.int 0), (.int 0), (.int 0), (.int 0)] := A_n
  clear A_n
  refine WP.dup at_56 rfl (pc' := 57) rfl ?_
  refine WP.iconst at_57 (z := (3 : Int32)) rfl (pc' := 58) rfl ?_
  refine WP.iconst at_58 (z := (0 : Int32)) rfl (pc' := 59) rfl ?_
  refine WP.iastore 3 at_59 A_b1 rfl (Nat.le_of_ble_eq_true rfl) g_b1 (pc' := 60) rfl ?_
  intro h9 K10 A_n
  replace A_b1 : Av Z h9 b1 .int [(.int (0 : Int32)), (.int (1 : Int32)), (.int (2 : Int32)), (.int (0 : Int32)), (.int 0), (.int 0), (.int 0), (.int 0), (.int 0), (.int 0), (.int 0), (.int 0), (.int 0), (.int 0), (.int 0), (.int 0), (.int 0), (.int 0)] := A_n
  clear A_n
  refine WP.dup at_60 rfl (pc' := 61) rfl ?_
  refine WP.iconst at_61 (z := (4 : Int32)) rfl (pc' := 62) rfl ?_
  refine WP.iconst at_62 (z := (2 : Int32)) rfl (pc' := 63) rfl ?_
  refine WP.iastore 4 at_63 A_b1 rfl (Nat.le_of_ble_eq_true rfl) g_b1 (pc' := 64) rfl ?_
  intro h11 K12 A_n
  replace A_b1 : Av Z h11 b1 .int [(.int (0 : Int32)), (.int (1 : Int32)), (.int (2 : Int32)), (.int (0 : Int32)), (.int (2 : Int32)), (.int 0), (.int 0), (.int 0), (.int 0), (.int 0), (.int 0), (.int 0), (.int 0), (.int 0), (.int 0), (.int 0), (.int 0), (.int 0)] := A_n
  clear A_n
  refine WP.dup at_64 rfl (pc' := 65) rfl ?_
  refine WP.iconst at_65 (z := (5 : Int32)) rfl (pc' := 66) rfl ?_
  refine WP.iconst at_66 (z := (1 : Int32)) rfl (pc' := 67) rfl ?_
  refine WP.iastore 5 at_67 A_b1 rfl (Nat.le_of_ble_eq_true rfl) g_b1 (pc' := 68) rfl ?_
  intro h13 K14 A_n
  replace A_b1 : Av Z h13 b1 .int [(.int (0 : Int32)), (.int (1 : Int32)), (.int (2 : Int32)), (.int (0 : Int32)), (.int (2 : Int32)), (.int (1 : Int32)), (.int 0), (.int 0), (.int 0), (.int 0), (.int 0), (.int 0), (.int 0), (.int 0), (.int 0), (.int 0), (.int 0), (.int 0)] := A_n
  clear A_n
  refine WP.dup at_68 rfl (pc' := 69) rfl ?_
  refine WP.bipush at_69 (z := (6 : Int32)) rfl (pc' := 71) rfl ?_
  refine WP.iconst at_71 (z := (1 : Int32)) rfl (pc' := 72) rfl ?_
  refine WP.iastore 6 at_72 A_b1 rfl (Nat.le_of_ble_eq_true rfl) g_b1 (pc' := 73) rfl ?_
  intro h15 K16 A_n
  replace A_b1 : Av Z h15 b1 .int [(.int (0 : Int32)), (.int (1 : Int32)), (.int (2 : Int32)), (.int (0 : Int32)), (.int (2 : Int32)), (.int (1 : Int32)), (.int (1 : Int32)), (.int 0), (.int 0), (.int 0), (.int 0), (.int 0), (.int 0), (.int 0), (.int 0), (.int 0), (.int 0), (.int 0)] := A_n
  clear A_n
  refine WP.dup at_73 rfl (pc' := 74) rfl ?_
  refine WP.bipush at_74 (z := (7 : Int32)) rfl (pc' := 76) rfl ?_
  refine WP.iconst at_76 (z := (0 : Int32)) rfl (pc' := 77) rfl ?_
  refine WP.iastore 7 at_77 A_b1 rfl (Nat.le_of_ble_eq_true rfl) g_b1 (pc' := 78) rfl ?_
  intro h17 K18 A_n
  replace A_b1 : Av Z h17 b1 .int [(.int (0 : Int32)), (.int (1 : Int32)), (.int (2 : Int32)), (.int (0 : Int32)), (.int (2 : Int32)), (.int (1 : Int32)), (.int (1 : Int32)), (.int (0 : Int32)), (.int 0), (.int 0), (.int 0), (.int 0), (.int 0), (.int 0), (.int 0), (.int 0), (.int 0), (.int 0)] := A_n
  clear A_n
  refine WP.dup at_78 rfl (pc' := 79) rfl ?_
  refine WP.bipush at_79 (z := (8 : Int32)) rfl (pc' := 81) rfl ?_
  refine WP.iconst at_81 (z := (2 : Int32)) rfl (pc' := 82) rfl ?_
  refine WP.iastore 8 at_82 A_b1 rfl (Nat.le_of_ble_eq_true rfl) g_b1 (pc' := 83) rfl ?_
  intro h19 K20 A_n
  replace A_b1 : Av Z h19 b1 .int [(.int (0 : Int32)), (.int (1 : Int32)), (.int (2 : Int32)), (.int (0 : Int32)), (.int (2 : Int32)), (.int (1 : Int32)), (.int (1 : Int32)), (.int (0 : Int32)), (.int (2 : Int32)), (.int 0), (.int 0), (.int 0), (.int 0), (.int 0), (.int 0), (.int 0), (.int 0), (.int 0)] := A_n
  clear A_n
  refine WP.dup at_83 rfl (pc' := 84) rfl ?_
  refine WP.bipush at_84 (z := (9 : Int32)) rfl (pc' := 86) rfl ?_
  refine WP.iconst at_86 (z := (1 : Int32)) rfl (pc' := 87) rfl ?_
  refine WP.iastore 9 at_87 A_b1 rfl (Nat.le_of_ble_eq_true rfl) g_b1 (pc' := 88) rfl ?_
  intro h21 K22 A_n
  replace A_b1 : Av Z h21 b1 .int [(.int (0 : Int32)), (.int (1 : Int32)), (.int (2 : Int32)), (.int (0 : Int32)), (.int (2 : Int32)), (.int (1 : Int32)), (.int (1 : Int32)), (.int (0 : Int32)), (.int (2 : Int32)), (.int (1 : Int32)), (.int 0), (.int 0), (.int 0), (.int 0), (.int 0), (.int 0), (.int 0), (.int 0)] := A_n
  clear A_n
  refine WP.dup at_88 rfl (pc' := 89) rfl ?_
  refine WP.bipush at_89 (z := (10 : Int32)) rfl (pc' := 91) rfl ?_
  refine WP.iconst at_91 (z := (2 : Int32)) rfl (pc' := 92) rfl ?_
  refine WP.iastore 10 at_92 A_b1 rfl (Nat.le_of_ble_eq_true rfl) g_b1 (pc' := 93) rfl ?_
  intro h23 K24 A_n
  replace A_b1 : Av Z h23 b1 .int [(.int (0 : Int32)), (.int (1 : Int32)), (.int (2 : Int32)), (.int (0 : Int32)), (.int (2 : Int32)), (.int (1 : Int32)), (.int (1 : Int32)), (.int (0 : Int32)), (.int (2 : Int32)), (.int (1 : Int32)), (.int (2 : Int32)), (.int 0), (.int 0), (.int 0), (.int 0), (.int 0), (.int 0), (.int 0)] := A_n
  clear A_n
  refine WP.dup at_93 rfl (pc' := 94) rfl ?_
  refine WP.bipush at_94 (z := (11 : Int32)) rfl (pc' := 96) rfl ?_
  refine WP.iconst at_96 (z := (0 : Int32)) rfl (pc' := 97) rfl ?_
  refine WP.iastore 11 at_97 A_b1 rfl (Nat.le_of_ble_eq_true rfl) g_b1 (pc' := 98) rfl ?_
  intro h25 K26 A_n
  replace A_b1 : Av Z h25 b1 .int [(.int (0 : Int32)), (.int (1 : Int32)), (.int (2 : Int32)), (.int (0 : Int32)), (.int (2 : Int32)), (.int (1 : Int32)), (.int (1 : Int32)), (.int (0 : Int32)), (.int (2 : Int32)), (.int (1 : Int32)), (.int (2 : Int32)), (.int (0 : Int32)), (.int 0), (.int 0), (.int 0), (.int 0), (.int 0), (.int 0)] := A_n
  clear A_n
  refine WP.dup at_98 rfl (pc' := 99) rfl ?_
  refine WP.bipush at_99 (z := (12 : Int32)) rfl (pc' := 101) rfl ?_
  refine WP.iconst at_101 (z := (2 : Int32)) rfl (pc' := 102) rfl ?_
  refine WP.iastore 12 at_102 A_b1 rfl (Nat.le_of_ble_eq_true rfl) g_b1 (pc' := 103) rfl ?_
  intro h27 K28 A_n
  replace A_b1 : Av Z h27 b1 .int [(.int (0 : Int32)), (.int (1 : Int32)), (.int (2 : Int32)), (.int (0 : Int32)), (.int (2 : Int32)), (.int (1 : Int32)), (.int (1 : Int32)), (.int (0 : Int32)), (.int (2 : Int32)), (.int (1 : Int32)), (.int (2 : Int32)), (.int (0 : Int32)), (.int (2 : Int32)), (.int 0), (.int 0), (.int 0), (.int 0), (.int 0)] := A_n
  clear A_n
  refine WP.dup at_103 rfl (pc' := 104) rfl ?_
  refine WP.bipush at_104 (z := (13 : Int32)) rfl (pc' := 106) rfl ?_
  refine WP.iconst at_106 (z := (0 : Int32)) rfl (pc' := 107) rfl ?_
  refine WP.iastore 13 at_107 A_b1 rfl (Nat.le_of_ble_eq_true rfl) g_b1 (pc' := 108) rfl ?_
  intro h29 K30 A_n
  replace A_b1 : Av Z h29 b1 .int [(.int (0 : Int32)), (.int (1 : Int32)), (.int (2 : Int32)), (.int (0 : Int32)), (.int (2 : Int32)), (.int (1 : Int32)), (.int (1 : Int32)), (.int (0 : Int32)), (.int (2 : Int32)), (.int (1 : Int32)), (.int (2 : Int32)), (.int (0 : Int32)), (.int (2 : Int32)), (.int (0 : Int32)), (.int 0), (.int 0), (.int 0), (.int 0)] := A_n
  clear A_n
  refine WP.dup at_108 rfl (pc' := 109) rfl ?_
  refine WP.bipush at_109 (z := (14 : Int32)) rfl (pc' := 111) rfl ?_
  refine WP.iconst at_111 (z := (1 : Int32)) rfl (pc' := 112) rfl ?_
  refine WP.iastore 14 at_112 A_b1 rfl (Nat.le_of_ble_eq_true rfl) g_b1 (pc' := 113) rfl ?_
  intro h31 K32 A_n
  replace A_b1 : Av Z h31 b1 .int [(.int (0 : Int32)), (.int (1 : Int32)), (.int (2 : Int32)), (.int (0 : Int32)), (.int (2 : Int32)), (.int (1 : Int32)), (.int (1 : Int32)), (.int (0 : Int32)), (.int (2 : Int32)), (.int (1 : Int32)), (.int (2 : Int32)), (.int (0 : Int32)), (.int (2 : Int32)), (.int (0 : Int32)), (.int (1 : Int32)), (.int 0), (.int 0), (.int 0)] := A_n
  clear A_n
  refine WP.dup at_113 rfl (pc' := 114) rfl ?_
  refine WP.bipush at_114 (z := (15 : Int32)) rfl (pc' := 116) rfl ?_
  refine WP.iconst at_116 (z := (2 : Int32)) rfl (pc' := 117) rfl ?_
  refine WP.iastore 15 at_117 A_b1 rfl (Nat.le_of_ble_eq_true rfl) g_b1 (pc' := 118) rfl ?_
  intro h33 K34 A_n
  replace A_b1 : Av Z h33 b1 .int [(.int (0 : Int32)), (.int (1 : Int32)), (.int (2 : Int32)), (.int (0 : Int32)), (.int (2 : Int32)), (.int (1 : Int32)), (.int (1 : Int32)), (.int (0 : Int32)), (.int (2 : Int32)), (.int (1 : Int32)), (.int (2 : Int32)), (.int (0 : Int32)), (.int (2 : Int32)), (.int (0 : Int32)), (.int (1 : Int32)), (.int (2 : Int32)), (.int 0), (.int 0)] := A_n
  clear A_n
  refine WP.dup at_118 rfl (pc' := 119) rfl ?_
  refine WP.bipush at_119 (z := (16 : Int32)) rfl (pc' := 121) rfl ?_
  refine WP.iconst at_121 (z := (1 : Int32)) rfl (pc' := 122) rfl ?_
  refine WP.iastore 16 at_122 A_b1 rfl (Nat.le_of_ble_eq_true rfl) g_b1 (pc' := 123) rfl ?_
  intro h35 K36 A_n
  replace A_b1 : Av Z h35 b1 .int [(.int (0 : Int32)), (.int (1 : Int32)), (.int (2 : Int32)), (.int (0 : Int32)), (.int (2 : Int32)), (.int (1 : Int32)), (.int (1 : Int32)), (.int (0 : Int32)), (.int (2 : Int32)), (.int (1 : Int32)), (.int (2 : Int32)), (.int (0 : Int32)), (.int (2 : Int32)), (.int (0 : Int32)), (.int (1 : Int32)), (.int (2 : Int32)), (.int (1 : Int32)), (.int 0)] := A_n
  clear A_n
  refine WP.dup at_123 rfl (pc' := 124) rfl ?_
  refine WP.bipush at_124 (z := (17 : Int32)) rfl (pc' := 126) rfl ?_
  refine WP.iconst at_126 (z := (0 : Int32)) rfl (pc' := 127) rfl ?_
  refine WP.iastore 17 at_127 A_b1 rfl (Nat.le_of_ble_eq_true rfl) g_b1 (pc' := 128) rfl ?_
  intro h37 K38 A_n
  replace A_b1 : Av Z h37 b1 .int [(.int (0 : Int32)), (.int (1 : Int32)), (.int (2 : Int32)), (.int (0 : Int32)), (.int (2 : Int32)), (.int (1 : Int32)), (.int (1 : Int32)), (.int (0 : Int32)), (.int (2 : Int32)), (.int (1 : Int32)), (.int (2 : Int32)), (.int (0 : Int32)), (.int (2 : Int32)), (.int (0 : Int32)), (.int (1 : Int32)), (.int (2 : Int32)), (.int (1 : Int32)), (.int (0 : Int32))] := A_n
  clear A_n
  refine WP.astore at_128 (pc' := 130) rfl rfl (ls' := #[.val (.int keys), .val (.int v0), .val (.int v1), .val (.int v2), .val (.int perm), .val (.int k0), .val (.int k1), .val (.int k2), .val (.int j), .val (.int (0 : Int32)), .val (.ref b1), .unset, .unset, .unset, .unset, .unset, .unset, .unset, .unset, .unset, .unset, .unset, .unset, .unset, .unset, .unset, .unset, .unset, .unset, .unset]) rfl ?_
  refine WP.iconst at_130 (z := (3 : Int32)) rfl (pc' := 131) rfl ?_
  refine WP.newarr at_131 (w1 hw) (k := 3) rfl 3 (by decide) (by decide) (by decide) (by decide) (pc' := 133) rfl ?_
  intro b2 h39 eb_b2 g_b2 K40 A_b2
  replace A_b2 : Av Z h39 b2 .int [.int 0, .int 0, .int 0] := A_b2
  have lt_b1_b2 : b1 < b2 := by rw [eb_b2]; exact A_b1.lt
  replace A_b1 := A_b1.keep K40 own_nil
  refine WP.dup at_133 rfl (pc' := 134) rfl ?_
  refine WP.iconst at_134 (z := (0 : Int32)) rfl (pc' := 135) rfl ?_
  refine WP.iload at_135 rfl (pc' := 137) rfl ?_
  refine WP.iastore 0 at_137 A_b2 rfl (Nat.le_of_ble_eq_true rfl) g_b2 (pc' := 138) rfl ?_
  intro h41 K42 A_n
  replace A_b1 := A_b1.keep K42 (own_cons (by first | assumption | exact Ne.symm (by assumption) | exact Nat.ne_of_lt (by assumption) | exact Nat.ne_of_gt (by assumption)) own_nil)
  replace A_b2 : Av Z h41 b2 .int [(.int k0), (.int 0), (.int 0)] := A_n
  clear A_n
  refine WP.dup at_138 rfl (pc' := 139) rfl ?_
  refine WP.iconst at_139 (z := (1 : Int32)) rfl (pc' := 140) rfl ?_
  refine WP.iload at_140 rfl (pc' := 142) rfl ?_
  refine WP.iastore 1 at_142 A_b2 rfl (Nat.le_of_ble_eq_true rfl) g_b2 (pc' := 143) rfl ?_
  intro h43 K44 A_n
  replace A_b1 := A_b1.keep K44 (own_cons (by first | assumption | exact Ne.symm (by assumption) | exact Nat.ne_of_lt (by assumption) | exact Nat.ne_of_gt (by assumption)) own_nil)
  replace A_b2 : Av Z h43 b2 .int [(.int k0), (.int k1), (.int 0)] := A_n
  clear A_n
  refine WP.dup at_143 rfl (pc' := 144) rfl ?_
  refine WP.iconst at_144 (z := (2 : Int32)) rfl (pc' := 145) rfl ?_
  refine WP.iload at_145 rfl (pc' := 147) rfl ?_
  refine WP.iastore 2 at_147 A_b2 rfl (Nat.le_of_ble_eq_true rfl) g_b2 (pc' := 148) rfl ?_
  intro h45 K46 A_n
  replace A_b1 := A_b1.keep K46 (own_cons (by first | assumption | exact Ne.symm (by assumption) | exact Nat.ne_of_lt (by assumption) | exact Nat.ne_of_gt (by assumption)) own_nil)
  replace A_b2 : Av Z h45 b2 .int [(.int k0), (.int k1), (.int k2)] := A_n
  clear A_n
  refine WP.astore at_148 (pc' := 150) rfl rfl (ls' := #[.val (.int keys), .val (.int v0), .val (.int v1), .val (.int v2), .val (.int perm), .val (.int k0), .val (.int k1), .val (.int k2), .val (.int j), .val (.int (0 : Int32)), .val (.ref b1), .val (.ref b2), .unset, .unset, .unset, .unset, .unset, .unset, .unset, .unset, .unset, .unset, .unset, .unset, .unset, .unset, .unset, .unset, .unset, .unset]) rfl ?_
  refine WP.iconst at_150 (z := (3 : Int32)) rfl (pc' := 151) rfl ?_
  refine WP.newarr at_151 (w1 hw) (k := 3) rfl 3 (by decide) (by decide) (by decide) (by decide) (pc' := 153) rfl ?_
  intro b3 h47 eb_b3 g_b3 K48 A_b3
  replace A_b3 : Av Z h47 b3 .int [.int 0, .int 0, .int 0] := A_b3
  have lt_b1_b3 : b1 < b3 := by rw [eb_b3]; exact A_b1.lt
  have lt_b2_b3 : b2 < b3 := by rw [eb_b3]; exact A_b2.lt
  replace A_b1 := A_b1.keep K48 own_nil
  replace A_b2 := A_b2.keep K48 own_nil
  refine WP.dup at_153 rfl (pc' := 154) rfl ?_
  refine WP.iconst at_154 (z := (0 : Int32)) rfl (pc' := 155) rfl ?_
  refine WP.iloadN at_155 rfl (pc' := 156) rfl ?_
  refine WP.iastore 0 at_156 A_b3 rfl (Nat.le_of_ble_eq_true rfl) g_b3 (pc' := 157) rfl ?_
  intro h49 K50 A_n
  replace A_b1 := A_b1.keep K50 (own_cons (by first | assumption | exact Ne.symm (by assumption) | exact Nat.ne_of_lt (by assumption) | exact Nat.ne_of_gt (by assumption)) own_nil)
  replace A_b2 := A_b2.keep K50 (own_cons (by first | assumption | exact Ne.symm (by assumption) | exact Nat.ne_of_lt (by assumption) | exact Nat.ne_of_gt (by assumption)) own_nil)
  replace A_b3 : Av Z h49 b3 .int [(.int v0), (.int 0), (.int 0)] := A_n
  clear A_n
  refine WP.dup at_157 rfl (pc' := 158) rfl ?_
  refine WP.iconst at_158 (z := (1 : Int32)) rfl (pc' := 159) rfl ?_
  refine WP.iloadN at_159 rfl (pc' := 160) rfl ?_
  refine WP.iastore 1 at_160 A_b3 rfl (Nat.le_of_ble_eq_true rfl) g_b3 (pc' := 161) rfl ?_
  intro h51 K52 A_n
  replace A_b1 := A_b1.keep K52 (own_cons (by first | assumption | exact Ne.symm (by assumption) | exact Nat.ne_of_lt (by assumption) | exact Nat.ne_of_gt (by assumption)) own_nil)
  replace A_b2 := A_b2.keep K52 (own_cons (by first | assumption | exact Ne.symm (by assumption) | exact Nat.ne_of_lt (by assumption) | exact Nat.ne_of_gt (by assumption)) own_nil)
  replace A_b3 : Av Z h51 b3 .int [(.int v0), (.int v1), (.int 0)] := A_n
  clear A_n
  refine WP.dup at_161 rfl (pc' := 162) rfl ?_
  refine WP.iconst at_162 (z := (2 : Int32)) rfl (pc' := 163) rfl ?_
  refine WP.iloadN at_163 rfl (pc' := 164) rfl ?_
  refine WP.iastore 2 at_164 A_b3 rfl (Nat.le_of_ble_eq_true rfl) g_b3 (pc' := 165) rfl ?_
  intro h53 K54 A_n
  replace A_b1 := A_b1.keep K54 (own_cons (by first | assumption | exact Ne.symm (by assumption) | exact Nat.ne_of_lt (by assumption) | exact Nat.ne_of_gt (by assumption)) own_nil)
  replace A_b2 := A_b2.keep K54 (own_cons (by first | assumption | exact Ne.symm (by assumption) | exact Nat.ne_of_lt (by assumption) | exact Nat.ne_of_gt (by assumption)) own_nil)
  replace A_b3 : Av Z h53 b3 .int [(.int v0), (.int v1), (.int v2)] := A_n
  clear A_n
  refine WP.astore at_165 (pc' := 167) rfl rfl (ls' := #[.val (.int keys), .val (.int v0), .val (.int v1), .val (.int v2), .val (.int perm), .val (.int k0), .val (.int k1), .val (.int k2), .val (.int j), .val (.int (0 : Int32)), .val (.ref b1), .val (.ref b2), .val (.ref b3), .unset, .unset, .unset, .unset, .unset, .unset, .unset, .unset, .unset, .unset, .unset, .unset, .unset, .unset, .unset, .unset, .unset]) rfl ?_
  refine WP.aload at_167 rfl rfl (pc' := 169) rfl ?_
  refine WP.iconst at_169 (z := (3 : Int32)) rfl (pc' := 170) rfl ?_
  refine WP.iload at_170 rfl (pc' := 172) rfl ?_
  refine WP.imul at_172 (pc' := 173) rfl ?_
  rw [show (((3 : Int32) * (0 : Int32)) : Int32) = (0 : Int32) from by decide]
  refine WP.iaload 0 at_173 A_b1 (x := (0 : Int32)) rfl rfl (pc' := 174) rfl ?_
  refine WP.istore at_174 (pc' := 176) rfl (ls' := #[.val (.int keys), .val (.int v0), .val (.int v1), .val (.int v2), .val (.int perm), .val (.int k0), .val (.int k1), .val (.int k2), .val (.int j), .val (.int (0 : Int32)), .val (.ref b1), .val (.ref b2), .val (.ref b3), .val (.int (0 : Int32)), .unset, .unset, .unset, .unset, .unset, .unset, .unset, .unset, .unset, .unset, .unset, .unset, .unset, .unset, .unset, .unset]) rfl ?_
  refine WP.aload at_176 rfl rfl (pc' := 178) rfl ?_
  refine WP.iconst at_178 (z := (3 : Int32)) rfl (pc' := 179) rfl ?_
  refine WP.iload at_179 rfl (pc' := 181) rfl ?_
  refine WP.imul at_181 (pc' := 182) rfl ?_
  rw [show (((3 : Int32) * (0 : Int32)) : Int32) = (0 : Int32) from by decide]
  refine WP.iconst at_182 (z := (1 : Int32)) rfl (pc' := 183) rfl ?_
  refine WP.iadd at_183 (pc' := 184) rfl ?_
  rw [show (((0 : Int32) + (1 : Int32)) : Int32) = (1 : Int32) from by decide]
  refine WP.iaload 1 at_184 A_b1 (x := (1 : Int32)) rfl rfl (pc' := 185) rfl ?_
  refine WP.istore at_185 (pc' := 187) rfl (ls' := #[.val (.int keys), .val (.int v0), .val (.int v1), .val (.int v2), .val (.int perm), .val (.int k0), .val (.int k1), .val (.int k2), .val (.int j), .val (.int (0 : Int32)), .val (.ref b1), .val (.ref b2), .val (.ref b3), .val (.int (0 : Int32)), .val (.int (1 : Int32)), .unset, .unset, .unset, .unset, .unset, .unset, .unset, .unset, .unset, .unset, .unset, .unset, .unset, .unset, .unset]) rfl ?_
  refine WP.aload at_187 rfl rfl (pc' := 189) rfl ?_
  refine WP.iconst at_189 (z := (3 : Int32)) rfl (pc' := 190) rfl ?_
  refine WP.iload at_190 rfl (pc' := 192) rfl ?_
  refine WP.imul at_192 (pc' := 193) rfl ?_
  rw [show (((3 : Int32) * (0 : Int32)) : Int32) = (0 : Int32) from by decide]
  refine WP.iconst at_193 (z := (2 : Int32)) rfl (pc' := 194) rfl ?_
  refine WP.iadd at_194 (pc' := 195) rfl ?_
  rw [show (((0 : Int32) + (2 : Int32)) : Int32) = (2 : Int32) from by decide]
  refine WP.iaload 2 at_195 A_b1 (x := (2 : Int32)) rfl rfl (pc' := 196) rfl ?_
  refine WP.istore at_196 (pc' := 198) rfl (ls' := #[.val (.int keys), .val (.int v0), .val (.int v1), .val (.int v2), .val (.int perm), .val (.int k0), .val (.int k1), .val (.int k2), .val (.int j), .val (.int (0 : Int32)), .val (.ref b1), .val (.ref b2), .val (.ref b3), .val (.int (0 : Int32)), .val (.int (1 : Int32)), .val (.int (2 : Int32)), .unset, .unset, .unset, .unset, .unset, .unset, .unset, .unset, .unset, .unset, .unset, .unset, .unset, .unset]) rfl ?_
  refine WP.aload at_198 rfl rfl (pc' := 200) rfl ?_
  refine WP.iload at_200 rfl (pc' := 202) rfl ?_
  refine WP.iaload 0 at_202 A_b2 (x := k0) rfl rfl (pc' := 203) rfl ?_
  refine WP.istore at_203 (pc' := 205) rfl (ls' := #[.val (.int keys), .val (.int v0), .val (.int v1), .val (.int v2), .val (.int perm), .val (.int k0), .val (.int k1), .val (.int k2), .val (.int j), .val (.int (0 : Int32)), .val (.ref b1), .val (.ref b2), .val (.ref b3), .val (.int (0 : Int32)), .val (.int (1 : Int32)), .val (.int (2 : Int32)), .val (.int k0), .unset, .unset, .unset, .unset, .unset, .unset, .unset, .unset, .unset, .unset, .unset, .unset, .unset]) rfl ?_
  refine WP.aload at_205 rfl rfl (pc' := 207) rfl ?_
  refine WP.iload at_207 rfl (pc' := 209) rfl ?_
  refine WP.iaload 1 at_209 A_b2 (x := k1) rfl rfl (pc' := 210) rfl ?_
  refine WP.istore at_210 (pc' := 212) rfl (ls' := #[.val (.int keys), .val (.int v0), .val (.int v1), .val (.int v2), .val (.int perm), .val (.int k0), .val (.int k1), .val (.int k2), .val (.int j), .val (.int (0 : Int32)), .val (.ref b1), .val (.ref b2), .val (.ref b3), .val (.int (0 : Int32)), .val (.int (1 : Int32)), .val (.int (2 : Int32)), .val (.int k0), .val (.int k1), .unset, .unset, .unset, .unset, .unset, .unset, .unset, .unset, .unset, .unset, .unset, .unset]) rfl ?_
  refine WP.aload at_212 rfl rfl (pc' := 214) rfl ?_
  refine WP.iload at_214 rfl (pc' := 216) rfl ?_
  refine WP.iaload 2 at_216 A_b2 (x := k2) rfl rfl (pc' := 217) rfl ?_
  refine WP.istore at_217 (pc' := 219) rfl (ls' := #[.val (.int keys), .val (.int v0), .val (.int v1), .val (.int v2), .val (.int perm), .val (.int k0), .val (.int k1), .val (.int k2), .val (.int j), .val (.int (0 : Int32)), .val (.ref b1), .val (.ref b2), .val (.ref b3), .val (.int (0 : Int32)), .val (.int (1 : Int32)), .val (.int (2 : Int32)), .val (.int k0), .val (.int k1), .val (.int k2), .unset, .unset, .unset, .unset, .unset, .unset, .unset, .unset, .unset, .unset, .unset]) rfl ?_
  refine WP.aload at_219 rfl rfl (pc' := 221) rfl ?_
  refine WP.iload at_221 rfl (pc' := 223) rfl ?_
  refine WP.iaload 0 at_223 A_b3 (x := v0) rfl rfl (pc' := 224) rfl ?_
  refine WP.istore at_224 (pc' := 226) rfl (ls' := #[.val (.int keys), .val (.int v0), .val (.int v1), .val (.int v2), .val (.int perm), .val (.int k0), .val (.int k1), .val (.int k2), .val (.int j), .val (.int (0 : Int32)), .val (.ref b1), .val (.ref b2), .val (.ref b3), .val (.int (0 : Int32)), .val (.int (1 : Int32)), .val (.int (2 : Int32)), .val (.int k0), .val (.int k1), .val (.int k2), .val (.int v0), .unset, .unset, .unset, .unset, .unset, .unset, .unset, .unset, .unset, .unset]) rfl ?_
  refine WP.aload at_226 rfl rfl (pc' := 228) rfl ?_
  refine WP.iload at_228 rfl (pc' := 230) rfl ?_
  refine WP.iaload 1 at_230 A_b3 (x := v1) rfl rfl (pc' := 231) rfl ?_
  refine WP.istore at_231 (pc' := 233) rfl (ls' := #[.val (.int keys), .val (.int v0), .val (.int v1), .val (.int v2), .val (.int perm), .val (.int k0), .val (.int k1), .val (.int k2), .val (.int j), .val (.int (0 : Int32)), .val (.ref b1), .val (.ref b2), .val (.ref b3), .val (.int (0 : Int32)), .val (.int (1 : Int32)), .val (.int (2 : Int32)), .val (.int k0), .val (.int k1), .val (.int k2), .val (.int v0), .val (.int v1), .unset, .unset, .unset, .unset, .unset, .unset, .unset, .unset, .unset]) rfl ?_
  refine WP.aload at_233 rfl rfl (pc' := 235) rfl ?_
  refine WP.iload at_235 rfl (pc' := 237) rfl ?_
  refine WP.iaload 2 at_237 A_b3 (x := v2) rfl rfl (pc' := 238) rfl ?_
  refine WP.istore at_238 (pc' := 240) rfl (ls' := #[.val (.int keys), .val (.int v0), .val (.int v1), .val (.int v2), .val (.int perm), .val (.int k0), .val (.int k1), .val (.int k2), .val (.int j), .val (.int (0 : Int32)), .val (.ref b1), .val (.ref b2), .val (.ref b3), .val (.int (0 : Int32)), .val (.int (1 : Int32)), .val (.int (2 : Int32)), .val (.int k0), .val (.int k1), .val (.int k2), .val (.int v0), .val (.int v1), .val (.int v2), .unset, .unset, .unset, .unset, .unset, .unset, .unset, .unset]) rfl ?_
  refine WP.iload at_240 rfl (pc' := 242) rfl ?_
  refine WP.iload at_242 rfl (pc' := 244) rfl ?_
  refine WP.iload at_244 rfl (pc' := 246) rfl ?_
  refine WP.iload at_246 rfl (pc' := 248) rfl ?_
  refine WP.callS (y := (⟨"com/example/stampwise/stampwise/history/IntGroupsPlacePinLaw", "below", "(IIII)I"⟩ : MethodName)) (By := B1) (as := [(.int k0), (.int k1), (.int k2), (.int k0)]) (rest := []) at_248 (w2 hw) (w3 hw) (w4 hw) (w5 hw) (by decide) (bel_met hw k0 k1 k2 k0 m0 m1 m2 m0 hk0 hk1 hk2 hk0) pd_0 rfl rfl rfl (by decide) (Nat.le_of_ble_eq_true rfl) (by decide) (by decide) (pc' := 251) rfl ?_
  rintro _ _ ⟨rfl, ea, rfl, hea⟩
  show WP _ _ _ _ _ _ _ _ _ _ [(.int ea)]
  refine WP.istore at_251 (pc' := 253) rfl (ls' := #[.val (.int keys), .val (.int v0), .val (.int v1), .val (.int v2), .val (.int perm), .val (.int k0), .val (.int k1), .val (.int k2), .val (.int j), .val (.int (0 : Int32)), .val (.ref b1), .val (.ref b2), .val (.ref b3), .val (.int (0 : Int32)), .val (.int (1 : Int32)), .val (.int (2 : Int32)), .val (.int k0), .val (.int k1), .val (.int k2), .val (.int v0), .val (.int v1), .val (.int v2), .val (.int ea), .unset, .unset, .unset, .unset, .unset, .unset, .unset]) rfl ?_
  refine WP.iload at_253 rfl (pc' := 255) rfl ?_
  refine WP.iload at_255 rfl (pc' := 257) rfl ?_
  refine WP.iload at_257 rfl (pc' := 259) rfl ?_
  refine WP.iload at_259 rfl (pc' := 261) rfl ?_
  refine WP.callS (y := (⟨"com/example/stampwise/stampwise/history/IntGroupsPlacePinLaw", "below", "(IIII)I"⟩ : MethodName)) (By := B1) (as := [(.int k0), (.int k1), (.int k2), (.int k1)]) (rest := []) at_261 (w2 hw) (w3 hw) (w4 hw) (w5 hw) (by decide) (bel_met hw k0 k1 k2 k1 m0 m1 m2 m1 hk0 hk1 hk2 hk1) pd_0 rfl rfl rfl (by decide) (Nat.le_of_ble_eq_true rfl) (by decide) (by decide) (pc' := 264) rfl ?_
  rintro _ _ ⟨rfl, r1, rfl, hr1⟩
  show WP _ _ _ _ _ _ _ _ _ _ [(.int r1)]
  refine WP.iload at_264 rfl (pc' := 266) rfl ?_
  refine WP.iload at_266 rfl (pc' := 268) rfl ?_
  refine WP.callS (y := (⟨"com/example/stampwise/stampwise/history/IntGroupsPlacePinLaw", "same", "(II)I"⟩ : MethodName)) (By := B2) (as := [(.int k0), (.int k1)]) (rest := [(.int r1)]) at_268 (w6 hw) (w7 hw) (w4 hw) (w8 hw) (by decide) (sam_met hw k0 k1 m0 m1 hk0 hk1) pd_1 rfl rfl rfl (by decide) (Nat.le_of_ble_eq_true rfl) (by decide) (by decide) (pc' := 271) rfl ?_
  rintro _ _ ⟨rfl, r2, rfl, hr2⟩
  show WP _ _ _ _ _ _ _ _ _ _ [(.int r2), (.int r1)]
  refine WP.iadd at_271 (pc' := 272) rfl ?_
  obtain ⟨eb, e_eb⟩ : ∃ z, z = (r1 + r2) := ⟨_, rfl⟩
  rw [← e_eb]
  refine WP.istore at_272 (pc' := 274) rfl (ls' := #[.val (.int keys), .val (.int v0), .val (.int v1), .val (.int v2), .val (.int perm), .val (.int k0), .val (.int k1), .val (.int k2), .val (.int j), .val (.int (0 : Int32)), .val (.ref b1), .val (.ref b2), .val (.ref b3), .val (.int (0 : Int32)), .val (.int (1 : Int32)), .val (.int (2 : Int32)), .val (.int k0), .val (.int k1), .val (.int k2), .val (.int v0), .val (.int v1), .val (.int v2), .val (.int ea), .val (.int eb), .unset, .unset, .unset, .unset, .unset, .unset]) rfl ?_
  refine WP.iload at_274 rfl (pc' := 276) rfl ?_
  refine WP.iload at_276 rfl (pc' := 278) rfl ?_
  refine WP.iload at_278 rfl (pc' := 280) rfl ?_
  refine WP.iload at_280 rfl (pc' := 282) rfl ?_
  refine WP.callS (y := (⟨"com/example/stampwise/stampwise/history/IntGroupsPlacePinLaw", "below", "(IIII)I"⟩ : MethodName)) (By := B1) (as := [(.int k0), (.int k1), (.int k2), (.int k2)]) (rest := []) at_282 (w2 hw) (w3 hw) (w4 hw) (w5 hw) (by decide) (bel_met hw k0 k1 k2 k2 m0 m1 m2 m2 hk0 hk1 hk2 hk2) pd_0 rfl rfl rfl (by decide) (Nat.le_of_ble_eq_true rfl) (by decide) (by decide) (pc' := 285) rfl ?_
  rintro _ _ ⟨rfl, r3, rfl, hr3⟩
  show WP _ _ _ _ _ _ _ _ _ _ [(.int r3)]
  refine WP.iload at_285 rfl (pc' := 287) rfl ?_
  refine WP.iload at_287 rfl (pc' := 289) rfl ?_
  refine WP.callS (y := (⟨"com/example/stampwise/stampwise/history/IntGroupsPlacePinLaw", "same", "(II)I"⟩ : MethodName)) (By := B2) (as := [(.int k0), (.int k2)]) (rest := [(.int r3)]) at_289 (w6 hw) (w7 hw) (w4 hw) (w8 hw) (by decide) (sam_met hw k0 k2 m0 m2 hk0 hk2) pd_1 rfl rfl rfl (by decide) (Nat.le_of_ble_eq_true rfl) (by decide) (by decide) (pc' := 292) rfl ?_
  rintro _ _ ⟨rfl, r4, rfl, hr4⟩
  show WP _ _ _ _ _ _ _ _ _ _ [(.int r4), (.int r3)]
  refine WP.iadd at_292 (pc' := 293) rfl ?_
  refine WP.iload at_293 rfl (pc' := 295) rfl ?_
  refine WP.iload at_295 rfl (pc' := 297) rfl ?_
  refine WP.callS (y := (⟨"com/example/stampwise/stampwise/history/IntGroupsPlacePinLaw", "same", "(II)I"⟩ : MethodName)) (By := B2) (as := [(.int k1), (.int k2)]) (rest := [(.int (r3 + r4))]) at_297 (w6 hw) (w7 hw) (w4 hw) (w8 hw) (by decide) (sam_met hw k1 k2 m1 m2 hk1 hk2) pd_1 rfl rfl rfl (by decide) (Nat.le_of_ble_eq_true rfl) (by decide) (by decide) (pc' := 300) rfl ?_
  rintro _ _ ⟨rfl, r5, rfl, hr5⟩
  show WP _ _ _ _ _ _ _ _ _ _ [(.int r5), (.int (r3 + r4))]
  refine WP.iadd at_300 (pc' := 301) rfl ?_
  obtain ⟨ec, e_ec⟩ : ∃ z, z = ((r3 + r4) + r5) := ⟨_, rfl⟩
  rw [← e_ec]
  refine WP.istore at_301 (pc' := 303) rfl (ls' := #[.val (.int keys), .val (.int v0), .val (.int v1), .val (.int v2), .val (.int perm), .val (.int k0), .val (.int k1), .val (.int k2), .val (.int j), .val (.int (0 : Int32)), .val (.ref b1), .val (.ref b2), .val (.ref b3), .val (.int (0 : Int32)), .val (.int (1 : Int32)), .val (.int (2 : Int32)), .val (.int k0), .val (.int k1), .val (.int k2), .val (.int v0), .val (.int v1), .val (.int v2), .val (.int ea), .val (.int eb), .val (.int ec), .unset, .unset, .unset, .unset, .unset]) rfl ?_
  have bb (a b d k : Nat) : bel a b d k ≤ 3 := by simp only [bel]; split <;> split <;> split <;> omega
  have ss (a b : Nat) : sam a b ≤ 1 := by simp only [sam]; split <;> omega
  have y1 := bb m0 m1 m2 m1
  have y2 := ss m0 m1
  have y3 := bb m0 m1 m2 m2
  have y4 := ss m0 m2
  have y5 := ss m1 m2
  have feb : eb.toInt = ((bel m0 m1 m2 m1 + sam m0 m1 : Nat) : Int) := by rw [e_eb, own_iadd] <;> omega
  have fe1 : (r3 + r4).toInt = r3.toInt + r4.toInt := by rw [own_iadd] <;> omega
  have fec : ec.toInt = ((bel m0 m1 m2 m2 + sam m0 m2 + sam m1 m2 : Nat) : Int) := by rw [e_ec, own_iadd] <;> omega
  obtain ⟨⟨p1, p2, p3, p4, p5, p6, p7, p8, p9, p10, p11, p12, p13⟩, pj⟩ := pure_0 ⟨m0, l0⟩ ⟨m1, l1⟩ ⟨m2, l2⟩
  obtain ⟨pj1, pj2⟩ := pj ⟨mj, lj⟩
  simp only at p1 p2 p3 p4 p5 p6 p7 p8 p9 p10 p11 p12 p13 pj1 pj2
  clear bb ss y1 y2 y3 y4 y5 fe1
  refine WP.newobj (lay := L_IG) (vs := [.null, .null]) at_303 (w9 hw) (w10 hw) (w11 hw) (lay_IG hw) rfl (by decide) (by decide) (pc' := 306) rfl ?_
  intro g h61 eb_g g_g K62 O_g
  have lt_b1_g : b1 < g := by rw [eb_g]; exact A_b1.lt
  have lt_b2_g : b2 < g := by rw [eb_g]; exact A_b2.lt
  have lt_b3_g : b3 < g := by rw [eb_g]; exact A_b3.lt
  replace A_b1 := A_b1.keep K62 own_nil
  replace A_b2 := A_b2.keep K62 own_nil
  replace A_b3 := A_b3.keep K62 own_nil
  refine WP.dup at_306 rfl (pc' := 307) rfl ?_
  refine WP.iconst at_307 (z := (4 : Int32)) rfl (pc' := 308) rfl ?_
  refine WP.callI (a := g) (y := (⟨"com/example/stampwise/stampwise/history/IntGroups", "<init>", "(I)V"⟩ : MethodName)) (By := B3) (as := [(.int (4 : Int32))]) (rest := [(.ref g)]) at_308 (w12 hw) (w13 hw) (w11 hw) (w14 hw) rfl rfl (by decide) (ini_met hw g g_g O_g) pd_2 rfl rfl rfl (by decide) (Nat.le_of_ble_eq_true rfl) (by decide) (by decide) (pc' := 311) rfl ?_
  rintro _ h63 ⟨rfl, hI⟩
  show WP _ _ _ _ _ _ _ _ _ _ [(.ref g)]
  refine WP.astore at_311 (pc' := 313) rfl rfl (ls' := #[.val (.int keys), .val (.int v0), .val (.int v1), .val (.int v2), .val (.int perm), .val (.int k0), .val (.int k1), .val (.int k2), .val (.int j), .val (.int (0 : Int32)), .val (.ref b1), .val (.ref b2), .val (.ref b3), .val (.int (0 : Int32)), .val (.int (1 : Int32)), .val (.int (2 : Int32)), .val (.int k0), .val (.int k1), .val (.int k2), .val (.int v0), .val (.int v1), .val (.int v2), .val (.int ea), .val (.int eb), .val (.int ec), .val (.ref g), .unset, .unset, .unset, .unset]) rfl ?_
  refine WP.aload at_313 rfl rfl (pc' := 315) rfl ?_
  refine WP.iload at_315 rfl (pc' := 317) rfl ?_
  refine WP.callV (a := g) (z := (⟨"com/example/stampwise/stampwise/history/IntGroups", "count", "(I)V"⟩ : MethodName)) (Cl := "com/example/stampwise/stampwise/history/IntGroups") (y := (⟨"com/example/stampwise/stampwise/history/IntGroups", "count", "(I)V"⟩ : MethodName)) (By := B5) (as := [(.int k0)]) (rest := []) at_317 (w20 hw) (w21 hw) (w23 hw) (w22 hw) (w11 hw) (w24 hw) rfl rfl (by decide) hI.exa (cou_met hw g k0 m0 _ hI hk0 l0 p1) pd_2 rfl rfl rfl (by decide) (Nat.le_of_ble_eq_true rfl) (by decide) (by decide) (pc' := 320) rfl ?_
  rintro _ h64 ⟨rfl, hI⟩
  show WP _ _ _ _ _ _ _ _ _ _ []
  refine WP.aload at_320 rfl rfl (pc' := 322) rfl ?_
  refine WP.iload at_322 rfl (pc' := 324) rfl ?_
  refine WP.callV (a := g) (z := (⟨"com/example/stampwise/stampwise/history/IntGroups", "count", "(I)V"⟩ : MethodName)) (Cl := "com/example/stampwise/stampwise/history/IntGroups") (y := (⟨"com/example/stampwise/stampwise/history/IntGroups", "count", "(I)V"⟩ : MethodName)) (By := B5) (as := [(.int k1)]) (rest := []) at_324 (w20 hw) (w21 hw) (w23 hw) (w22 hw) (w11 hw) (w24 hw) rfl rfl (by decide) hI.exa (cou_met hw g k1 m1 _ hI hk1 l1 p2) pd_2 rfl rfl rfl (by decide) (Nat.le_of_ble_eq_true rfl) (by decide) (by decide) (pc' := 327) rfl ?_
  rintro _ h65 ⟨rfl, hI⟩
  show WP _ _ _ _ _ _ _ _ _ _ []
  refine WP.aload at_327 rfl rfl (pc' := 329) rfl ?_
  refine WP.iload at_329 rfl (pc' := 331) rfl ?_
  refine WP.callV (a := g) (z := (⟨"com/example/stampwise/stampwise/history/IntGroups", "count", "(I)V"⟩ : MethodName)) (Cl := "com/example/stampwise/stampwise/history/IntGroups") (y := (⟨"com/example/stampwise/stampwise/history/IntGroups", "count", "(I)V"⟩ : MethodName)) (By := B5) (as := [(.int k2)]) (rest := []) at_331 (w20 hw) (w21 hw) (w23 hw) (w22 hw) (w11 hw) (w24 hw) rfl rfl (by decide) hI.exa (cou_met hw g k2 m2 _ hI hk2 l2 p3) pd_2 rfl rfl rfl (by decide) (Nat.le_of_ble_eq_true rfl) (by decide) (by decide) (pc' := 334) rfl ?_
  rintro _ h66 ⟨rfl, hI⟩
  show WP _ _ _ _ _ _ _ _ _ _ []
  refine WP.aload at_334 rfl rfl (pc' := 336) rfl ?_
  refine WP.callV (a := g) (z := (⟨"com/example/stampwise/stampwise/history/IntGroups", "startPlacing", "()V"⟩ : MethodName)) (Cl := "com/example/stampwise/stampwise/history/IntGroups") (y := (⟨"com/example/stampwise/stampwise/history/IntGroups", "startPlacing", "()V"⟩ : MethodName)) (By := B6) (as := []) (rest := []) at_336 (w25 hw) (w26 hw) (w28 hw) (w27 hw) (w11 hw) (w29 hw) rfl rfl (by decide) hI.exa (stp_met hw g _ hI p4) pd_3 rfl rfl rfl (by decide) (Nat.le_of_ble_eq_true rfl) (by decide) (by decide) (pc' := 339) rfl ?_
  rintro _ h67 ⟨rfl, hI⟩
  show WP _ _ _ _ _ _ _ _ _ _ []
  refine WP.aload at_339 rfl rfl (pc' := 341) rfl ?_
  refine WP.iload at_341 rfl (pc' := 343) rfl ?_
  refine WP.iload at_343 rfl (pc' := 345) rfl ?_
  refine WP.callV (a := g) (z := (⟨"com/example/stampwise/stampwise/history/IntGroups", "place", "(II)I"⟩ : MethodName)) (Cl := "com/example/stampwise/stampwise/history/IntGroups") (y := (⟨"com/example/stampwise/stampwise/history/IntGroups", "place", "(II)I"⟩ : MethodName)) (By := B7) (as := [(.int k0), (.int v0)]) (rest := []) at_345 (w36 hw) (w37 hw) (w39 hw) (w38 hw) (w11 hw) (w40 hw) rfl rfl (by decide) hI.exa (plc_met hw g k0 v0 m0 _ _ hI hk0 l0 (by omega) (by simpa using p5)) pd_1 rfl rfl rfl (by decide) (Nat.le_of_ble_eq_true rfl) (by decide) (by decide) (pc' := 348) rfl ?_
  rintro _ h68 ⟨ra, rfl, hra, hI⟩
  show WP _ _ _ _ _ _ _ _ _ _ [(.int ra)]
  refine WP.istore at_348 (pc' := 350) rfl (ls' := #[.val (.int keys), .val (.int v0), .val (.int v1), .val (.int v2), .val (.int perm), .val (.int k0), .val (.int k1), .val (.int k2), .val (.int j), .val (.int (0 : Int32)), .val (.ref b1), .val (.ref b2), .val (.ref b3), .val (.int (0 : Int32)), .val (.int (1 : Int32)), .val (.int (2 : Int32)), .val (.int k0), .val (.int k1), .val (.int k2), .val (.int v0), .val (.int v1), .val (.int v2), .val (.int ea), .val (.int eb), .val (.int ec), .val (.ref g), .val (.int ra), .unset, .unset, .unset]) rfl ?_
  refine WP.aload at_350 rfl rfl (pc' := 352) rfl ?_
  refine WP.iload at_352 rfl (pc' := 354) rfl ?_
  refine WP.iload at_354 rfl (pc' := 356) rfl ?_
  refine WP.callV (a := g) (z := (⟨"com/example/stampwise/stampwise/history/IntGroups", "place", "(II)I"⟩ : MethodName)) (Cl := "com/example/stampwise/stampwise/history/IntGroups") (y := (⟨"com/example/stampwise/stampwise/history/IntGroups", "place", "(II)I"⟩ : MethodName)) (By := B7) (as := [(.int k1), (.int v1)]) (rest := []) at_356 (w36 hw) (w37 hw) (w39 hw) (w38 hw) (w11 hw) (w40 hw) rfl rfl (by decide) hI.exa (plc_met hw g k1 v1 m1 _ _ hI hk1 l1 (by omega) (by simpa using p6)) pd_1 rfl rfl rfl (by decide) (Nat.le_of_ble_eq_true rfl) (by decide) (by decide) (pc' := 359) rfl ?_
  rintro _ h69 ⟨rb, rfl, hrb, hI⟩
  show WP _ _ _ _ _ _ _ _ _ _ [(.int rb)]
  refine WP.istore at_359 (pc' := 361) rfl (ls' := #[.val (.int keys), .val (.int v0), .val (.int v1), .val (.int v2), .val (.int perm), .val (.int k0), .val (.int k1), .val (.int k2), .val (.int j), .val (.int (0 : Int32)), .val (.ref b1), .val (.ref b2), .val (.ref b3), .val (.int (0 : Int32)), .val (.int (1 : Int32)), .val (.int (2 : Int32)), .val (.int k0), .val (.int k1), .val (.int k2), .val (.int v0), .val (.int v1), .val (.int v2), .val (.int ea), .val (.int eb), .val (.int ec), .val (.ref g), .val (.int ra), .val (.int rb), .unset, .unset]) rfl ?_
  refine WP.aload at_361 rfl rfl (pc' := 363) rfl ?_
  refine WP.iload at_363 rfl (pc' := 365) rfl ?_
  refine WP.iload at_365 rfl (pc' := 367) rfl ?_
  refine WP.callV (a := g) (z := (⟨"com/example/stampwise/stampwise/history/IntGroups", "place", "(II)I"⟩ : MethodName)) (Cl := "com/example/stampwise/stampwise/history/IntGroups") (y := (⟨"com/example/stampwise/stampwise/history/IntGroups", "place", "(II)I"⟩ : MethodName)) (By := B7) (as := [(.int k2), (.int v2)]) (rest := []) at_367 (w36 hw) (w37 hw) (w39 hw) (w38 hw) (w11 hw) (w40 hw) rfl rfl (by decide) hI.exa (plc_met hw g k2 v2 m2 _ _ hI hk2 l2 (by omega) (by simpa using p7)) pd_1 rfl rfl rfl (by decide) (Nat.le_of_ble_eq_true rfl) (by decide) (by decide) (pc' := 370) rfl ?_
  rintro _ h70 ⟨rc, rfl, hrc, hI⟩
  show WP _ _ _ _ _ _ _ _ _ _ [(.int rc)]
  refine WP.istore at_370 (pc' := 372) rfl (ls' := #[.val (.int keys), .val (.int v0), .val (.int v1), .val (.int v2), .val (.int perm), .val (.int k0), .val (.int k1), .val (.int k2), .val (.int j), .val (.int (0 : Int32)), .val (.ref b1), .val (.ref b2), .val (.ref b3), .val (.int (0 : Int32)), .val (.int (1 : Int32)), .val (.int (2 : Int32)), .val (.int k0), .val (.int k1), .val (.int k2), .val (.int v0), .val (.int v1), .val (.int v2), .val (.int ea), .val (.int eb), .val (.int ec), .val (.ref g), .val (.int ra), .val (.int rb), .val (.int rc), .unset]) rfl ?_
  refine WP.iload at_372 rfl (pc' := 374) rfl ?_
  refine WP.iload at_374 rfl (pc' := 376) rfl ?_
  refine WP.icmpNe at_376 (tgt := 393) (by decide) (pc' := 379) rfl (fun c376 => ?_) (fun c376 => ?_)
  · exfalso; omega
  refine WP.iload at_379 rfl (pc' := 381) rfl ?_
  refine WP.iload at_381 rfl (pc' := 383) rfl ?_
  refine WP.icmpNe at_383 (tgt := 393) (by decide) (pc' := 386) rfl (fun c383 => ?_) (fun c383 => ?_)
  · exfalso; omega
  refine WP.iload at_386 rfl (pc' := 388) rfl ?_
  refine WP.iload at_388 rfl (pc' := 390) rfl ?_
  refine WP.icmpEq at_390 (tgt := 395) (by decide) (pc' := 393) rfl (fun c390 => ?_) (fun c390 => ?_)
  ·
    refine WP.aload at_395 rfl rfl (pc' := 397) rfl ?_
    refine WP.callV (a := g) (z := (⟨"com/example/stampwise/stampwise/history/IntGroups", "values", "()[I"⟩ : MethodName)) (Cl := "com/example/stampwise/stampwise/history/IntGroups") (y := (⟨"com/example/stampwise/stampwise/history/IntGroups", "values", "()[I"⟩ : MethodName)) (By := B8) (as := []) (rest := []) at_397 (w41 hw) (w42 hw) (w44 hw) (w43 hw) (w11 hw) (w45 hw) rfl rfl (by decide) hI.exa (vls_met hw g _ _ hI) pd_4 rfl rfl rfl (by decide) (Nat.le_of_ble_eq_true rfl) (by decide) (by decide) (pc' := 400) rfl ?_
    rintro _ h71 ⟨wa, rfl, A_wa, hI⟩
    show WP _ _ _ _ _ _ _ _ _ _ [(.ref wa)]
    refine WP.astore at_400 (pc' := 402) rfl rfl (ls' := #[.val (.int keys), .val (.int v0), .val (.int v1), .val (.int v2), .val (.int perm), .val (.int k0), .val (.int k1), .val (.int k2), .val (.int j), .val (.int (0 : Int32)), .val (.ref b1), .val (.ref b2), .val (.ref b3), .val (.int (0 : Int32)), .val (.int (1 : Int32)), .val (.int (2 : Int32)), .val (.int k0), .val (.int k1), .val (.int k2), .val (.int v0), .val (.int v1), .val (.int v2), .val (.int ea), .val (.int eb), .val (.int ec), .val (.ref g), .val (.int ra), .val (.int rb), .val (.int rc), .val (.ref wa)]) rfl ?_
    refine WP.aload at_402 rfl rfl (pc' := 404) rfl ?_
    refine WP.ifnullN at_404 (pc' := 407) rfl ?_
    refine WP.aload at_407 rfl rfl (pc' := 409) rfl ?_
    refine WP.alen at_409 A_wa (k := (3 : Int32)) (by simp) (pc' := 410) rfl ?_
    refine WP.iconst at_410 (z := (3 : Int32)) rfl (pc' := 411) rfl ?_
    refine WP.icmpEq at_411 (tgt := 416) (by decide) (pc' := 414) rfl (fun c411 => ?_) (fun c411 => ?_)
    ·
      obtain ⟨na, hna⟩ : ∃ z, z = (sp (cnt (cnt (cnt [0, 0, 0, 0, 0] m0) m1) m2)).getD (m0 + 1) 0 := ⟨_, rfl⟩
      obtain ⟨nb, hnb⟩ : ∃ z, z = (cnt (sp (cnt (cnt (cnt [0, 0, 0, 0, 0] m0) m1) m2)) m0).getD (m1 + 1) 0 := ⟨_, rfl⟩
      obtain ⟨nc, hnc⟩ : ∃ z, z = (cnt (cnt (sp (cnt (cnt (cnt [0, 0, 0, 0, 0] m0) m1) m2)) m0) m1).getD (m2 + 1) 0 := ⟨_, rfl⟩
      rw [← hna] at A_wa p5 p8 p11 p12
      rw [← hnb] at A_wa p6 p9 p11 p13
      rw [← hnc] at A_wa p7 p10 p12 p13
      refine WP.aload at_416 rfl rfl (pc' := 418) rfl ?_
      refine WP.iload at_418 rfl (pc' := 420) rfl ?_
      refine WP.iaload na at_420 A_wa (x := v0) (by omega) (by rw [List.getElem?_set_ne (by omega), List.getElem?_set_ne (by omega), List.getElem?_set_self (by simpa using p5)]) (pc' := 421) rfl ?_
      refine WP.iload at_421 rfl (pc' := 423) rfl ?_
      refine WP.icmpNe at_423 (tgt := 446) (by decide) (pc' := 426) rfl (fun c423 => ?_) (fun c423 => ?_)
      · exfalso; omega
      refine WP.aload at_426 rfl rfl (pc' := 428) rfl ?_
      refine WP.iload at_428 rfl (pc' := 430) rfl ?_
      refine WP.iaload nb at_430 A_wa (x := v1) (by omega) (by rw [List.getElem?_set_ne (by omega), List.getElem?_set_self (by simpa using p6)]) (pc' := 431) rfl ?_
      refine WP.iload at_431 rfl (pc' := 433) rfl ?_
      refine WP.icmpNe at_433 (tgt := 446) (by decide) (pc' := 436) rfl (fun c433 => ?_) (fun c433 => ?_)
      · exfalso; omega
      refine WP.aload at_436 rfl rfl (pc' := 438) rfl ?_
      refine WP.iload at_438 rfl (pc' := 440) rfl ?_
      refine WP.iaload nc at_440 A_wa (x := v2) (by omega) (by rw [List.getElem?_set_self (by simpa using p7)]) (pc' := 441) rfl ?_
      refine WP.iload at_441 rfl (pc' := 443) rfl ?_
      refine WP.icmpEq at_443 (tgt := 448) (by decide) (pc' := 446) rfl (fun c443 => ?_) (fun c443 => ?_)
      ·
        refine WP.aload at_448 rfl rfl (pc' := 450) rfl ?_
        refine WP.iload at_450 rfl (pc' := 452) rfl ?_
        refine WP.callV (a := g) (z := (⟨"com/example/stampwise/stampwise/history/IntGroups", "start", "(I)I"⟩ : MethodName)) (Cl := "com/example/stampwise/stampwise/history/IntGroups") (y := (⟨"com/example/stampwise/stampwise/history/IntGroups", "start", "(I)I"⟩ : MethodName)) (By := B9) (as := [(.int j)]) (rest := []) at_452 (w46 hw) (w47 hw) (w49 hw) (w48 hw) (w11 hw) (w50 hw) rfl rfl (by decide) hI.exa (sta_met hw g j mj _ _ hI hj lj pj2) pd_5 rfl rfl rfl (by decide) (Nat.le_of_ble_eq_true rfl) (by decide) (by decide) (pc' := 455) rfl ?_
        rintro _ h72 ⟨rs, rfl, hrs⟩
        show WP _ _ _ _ _ _ _ _ _ _ [(.int rs)]
        refine WP.iload at_455 rfl (pc' := 457) rfl ?_
        refine WP.iload at_457 rfl (pc' := 459) rfl ?_
        refine WP.iload at_459 rfl (pc' := 461) rfl ?_
        refine WP.iload at_461 rfl (pc' := 463) rfl ?_
        refine WP.callS (y := (⟨"com/example/stampwise/stampwise/history/IntGroupsPlacePinLaw", "below", "(IIII)I"⟩ : MethodName)) (By := B1) (as := [(.int k0), (.int k1), (.int k2), (.int j)]) (rest := [(.int rs)]) at_463 (w2 hw) (w3 hw) (w4 hw) (w5 hw) (by decide) (bel_met hw k0 k1 k2 j m0 m1 m2 mj hk0 hk1 hk2 hj) pd_0 rfl rfl rfl (by decide) (Nat.le_of_ble_eq_true rfl) (by decide) (by decide) (pc' := 466) rfl ?_
        rintro _ _ ⟨rfl, rb2, rfl, hrb2⟩
        show WP _ _ _ _ _ _ _ _ _ _ [(.int rb2), (.int rs)]
        refine WP.icmpNe at_466 (tgt := 473) (by decide) (pc' := 469) rfl (fun c466 => ?_) (fun c466 => ?_)
        ·
          refine WP.iconst at_473 (z := (0 : Int32)) rfl (pc' := 474) rfl ?_
          exact WP.retN at_474 (t := .boolean) rfl (by simp) (by decide) (by decide) (by exfalso; omega)
        refine WP.iconst at_469 (z := (1 : Int32)) rfl (pc' := 470) rfl ?_
        refine WP.goto at_470 (pc' := 474) (by decide) ?_
        exact WP.retN at_474 (t := .boolean) rfl (by simp) (by decide) (by decide) own_q1
      exfalso; omega
    exfalso; omega
  exfalso; omega
theorem law_40_1 {l : Launch} {Z : State} {a0 : Array Value} (hw : HW Z a0) {n0 : Nat} {h : Heap} (keys v0 v1 v2 perm k0 k1 k2 j : Int32) (m0 m1 m2 mj : Nat) (hk0 : k0.toInt = (m0 : Int)) (hk1 : k1.toInt = (m1 : Int)) (hk2 : k2.toInt = (m2 : Int)) (hj : j.toInt = (mj : Int)) (l0 : m0 < 4) (l1 : m1 < 4) (l2 : m2 < 4) (lj : mj < 5) : WP l B0 Z n0 (fun v h' => v = some (.int 1)) h 0 0 40 #[.val (.int keys), .val (.int v0), .val (.int v1), .val (.int v2), .val (.int perm), .val (.int k0), .val (.int k1), .val (.int k2), .val (.int j), .val (.int (1 : Int32)), .unset, .unset, .unset, .unset, .unset, .unset, .unset, .unset, .unset, .unset, .unset, .unset, .unset, .unset, .unset, .unset, .unset, .unset, .unset, .unset] [] := by
  have k32_0 : (0 : Int32).toInt = 0 := by decide
  have k32_1 : (1 : Int32).toInt = 1 := by decide
  have k32_2 : (2 : Int32).toInt = 2 := by decide
  have k32_3 : (3 : Int32).toInt = 3 := by decide
  have k32_4 : (4 : Int32).toInt = 4 := by decide
  have k32_5 : (5 : Int32).toInt = 5 := by decide
  have k32_6 : (6 : Int32).toInt = 6 := by decide
  have k32_7 : (7 : Int32).toInt = 7 := by decide
  have k32_8 : (8 : Int32).toInt = 8 := by decide
  have k32_9 : (9 : Int32).toInt = 9 := by decide
  have k32_10 : (10 : Int32).toInt = 10 := by decide
  have k32_11 : (11 : Int32).toInt = 11 := by decide
  have k32_12 : (12 : Int32).toInt = 12 := by decide
  have k32_13 : (13 : Int32).toInt = 13 := by decide
  have k32_14 : (14 : Int32).toInt = 14 := by decide
  have k32_15 : (15 : Int32).toInt = 15 := by decide
  have k32_16 : (16 : Int32).toInt = 16 := by decide
  have k32_17 : (17 : Int32).toInt = 17 := by decide
  have k32_18 : (18 : Int32).toInt = 18 := by decide
  refine WP.bipush at_40 (z := (18 : Int32)) rfl (pc' := 42) rfl ?_
  refine WP.newarr at_42 (w1 hw) (k := 18) rfl 18 (by decide) (by decide) (by decide) (by decide) (pc' := 44) rfl ?_
  intro b1 h1 eb_b1 g_b1 K2 A_b1
  replace A_b1 : Av Z h1 b1 .int [.int 0, .int 0, .int 0, .int 0, .int 0, .int 0, .int 0, .int 0, .int 0, .int 0, .int 0, .int 0, .int 0, .int 0, .int 0, .int 0, .int 0, .int 0] := A_b1
  refine WP.dup at_44 rfl (pc' := 45) rfl ?_
  refine WP.iconst at_45 (z := (0 : Int32)) rfl (pc' := 46) rfl ?_
  refine WP.iconst at_46 (z := (0 : Int32)) rfl (pc' := 47) rfl ?_
  refine WP.iastore 0 at_47 A_b1 rfl (Nat.le_of_ble_eq_true rfl) g_b1 (pc' := 48) rfl ?_
  intro h3 K4 A_n
  replace A_b1 : Av Z h3 b1 .int [(.int (0 : Int32)), (.int 0), (.int 0), (.int 0), (.int 0), (.int 0), (.int 0), (.int 0), (.int 0), (.int 0), (.int 0), (.int 0), (.int 0), (.int 0), (.int 0), (.int 0), (.int 0), (.int 0)] := A_n
  clear A_n
  refine WP.dup at_48 rfl (pc' := 49) rfl ?_
  refine WP.iconst at_49 (z := (1 : Int32)) rfl (pc' := 50) rfl ?_
  refine WP.iconst at_50 (z := (1 : Int32)) rfl (pc' := 51) rfl ?_
  refine WP.iastore 1 at_51 A_b1 rfl (Nat.le_of_ble_eq_true rfl) g_b1 (pc' := 52) rfl ?_
  intro h5 K6 A_n
  replace A_b1 : Av Z h5 b1 .int [(.int (0 : Int32)), (.int (1 : Int32)), (.int 0), (.int 0), (.int 0), (.int 0), (.int 0), (.int 0), (.int 0), (.int 0), (.int 0), (.int 0), (.int 0), (.int 0), (.int 0), (.int 0), (.int 0), (.int 0)] := A_n
  clear A_n
  refine WP.dup at_52 rfl (pc' := 53) rfl ?_
  refine WP.iconst at_53 (z := (2 : Int32)) rfl (pc' := 54) rfl ?_
  refine WP.iconst at_54 (z := (2 : Int32)) rfl (pc' := 55) rfl ?_
  refine WP.iastore 2 at_55 A_b1 rfl (Nat.le_of_ble_eq_true rfl) g_b1 (pc' := 56) rfl ?_
  intro h7 K8 A_n
  replace A_b1 : Av Z h7 b1 .int [(.int (0 : Int32)), (.int (1 : Int32)), (.int (2 : Int32)), (.int 0), (.int 0), (.int 0), (.int 0), (.int 0), (.int 0), (.int 0), (.int 0), (.int 0), (.int 0), (.int 0), (.int 0), (.int 0), (.int 0), (.int 0)] := A_n
  clear A_n
  refine WP.dup at_56 rfl (pc' := 57) rfl ?_
  refine WP.iconst at_57 (z := (3 : Int32)) rfl (pc' := 58) rfl ?_
  refine WP.iconst at_58 (z := (0 : Int32)) rfl (pc' := 59) rfl ?_
  refine WP.iastore 3 at_59 A_b1 rfl (Nat.le_of_ble_eq_true rfl) g_b1 (pc' := 60) rfl ?_
  intro h9 K10 A_n
  replace A_b1 : Av Z h9 b1 .int [(.int (0 : Int32)), (.int (1 : Int32)), (.int (2 : Int32)), (.int (0 : Int32)), (.int 0), (.int 0), (.int 0), (.int 0), (.int 0), (.int 0), (.int 0), (.int 0), (.int 0), (.int 0), (.int 0), (.int 0), (.int 0), (.int 0)] := A_n
  clear A_n
  refine WP.dup at_60 rfl (pc' := 61) rfl ?_
  refine WP.iconst at_61 (z := (4 : Int32)) rfl (pc' := 62) rfl ?_
  refine WP.iconst at_62 (z := (2 : Int32)) rfl (pc' := 63) rfl ?_
  refine WP.iastore 4 at_63 A_b1 rfl (Nat.le_of_ble_eq_true rfl) g_b1 (pc' := 64) rfl ?_
  intro h11 K12 A_n
  replace A_b1 : Av Z h11 b1 .int [(.int (0 : Int32)), (.int (1 : Int32)), (.int (2 : Int32)), (.int (0 : Int32)), (.int (2 : Int32)), (.int 0), (.int 0), (.int 0), (.int 0), (.int 0), (.int 0), (.int 0), (.int 0), (.int 0), (.int 0), (.int 0), (.int 0), (.int 0)] := A_n
  clear A_n
  refine WP.dup at_64 rfl (pc' := 65) rfl ?_
  refine WP.iconst at_65 (z := (5 : Int32)) rfl (pc' := 66) rfl ?_
  refine WP.iconst at_66 (z := (1 : Int32)) rfl (pc' := 67) rfl ?_
  refine WP.iastore 5 at_67 A_b1 rfl (Nat.le_of_ble_eq_true rfl) g_b1 (pc' := 68) rfl ?_
  intro h13 K14 A_n
  replace A_b1 : Av Z h13 b1 .int [(.int (0 : Int32)), (.int (1 : Int32)), (.int (2 : Int32)), (.int (0 : Int32)), (.int (2 : Int32)), (.int (1 : Int32)), (.int 0), (.int 0), (.int 0), (.int 0), (.int 0), (.int 0), (.int 0), (.int 0), (.int 0), (.int 0), (.int 0), (.int 0)] := A_n
  clear A_n
  refine WP.dup at_68 rfl (pc' := 69) rfl ?_
  refine WP.bipush at_69 (z := (6 : Int32)) rfl (pc' := 71) rfl ?_
  refine WP.iconst at_71 (z := (1 : Int32)) rfl (pc' := 72) rfl ?_
  refine WP.iastore 6 at_72 A_b1 rfl (Nat.le_of_ble_eq_true rfl) g_b1 (pc' := 73) rfl ?_
  intro h15 K16 A_n
  replace A_b1 : Av Z h15 b1 .int [(.int (0 : Int32)), (.int (1 : Int32)), (.int (2 : Int32)), (.int (0 : Int32)), (.int (2 : Int32)), (.int (1 : Int32)), (.int (1 : Int32)), (.int 0), (.int 0), (.int 0), (.int 0), (.int 0), (.int 0), (.int 0), (.int 0), (.int 0), (.int 0), (.int 0)] := A_n
  clear A_n
  refine WP.dup at_73 rfl (pc' := 74) rfl ?_
  refine WP.bipush at_74 (z := (7 : Int32)) rfl (pc' := 76) rfl ?_
  refine WP.iconst at_76 (z := (0 : Int32)) rfl (pc' := 77) rfl ?_
  refine WP.iastore 7 at_77 A_b1 rfl (Nat.le_of_ble_eq_true rfl) g_b1 (pc' := 78) rfl ?_
  intro h17 K18 A_n
  replace A_b1 : Av Z h17 b1 .int [(.int (0 : Int32)), (.int (1 : Int32)), (.int (2 : Int32)), (.int (0 : Int32)), (.int (2 : Int32)), (.int (1 : Int32)), (.int (1 : Int32)), (.int (0 : Int32)), (.int 0), (.int 0), (.int 0), (.int 0), (.int 0), (.int 0), (.int 0), (.int 0), (.int 0), (.int 0)] := A_n
  clear A_n
  refine WP.dup at_78 rfl (pc' := 79) rfl ?_
  refine WP.bipush at_79 (z := (8 : Int32)) rfl (pc' := 81) rfl ?_
  refine WP.iconst at_81 (z := (2 : Int32)) rfl (pc' := 82) rfl ?_
  refine WP.iastore 8 at_82 A_b1 rfl (Nat.le_of_ble_eq_true rfl) g_b1 (pc' := 83) rfl ?_
  intro h19 K20 A_n
  replace A_b1 : Av Z h19 b1 .int [(.int (0 : Int32)), (.int (1 : Int32)), (.int (2 : Int32)), (.int (0 : Int32)), (.int (2 : Int32)), (.int (1 : Int32)), (.int (1 : Int32)), (.int (0 : Int32)), (.int (2 : Int32)), (.int 0), (.int 0), (.int 0), (.int 0), (.int 0), (.int 0), (.int 0), (.int 0), (.int 0)] := A_n
  clear A_n
  refine WP.dup at_83 rfl (pc' := 84) rfl ?_
  refine WP.bipush at_84 (z := (9 : Int32)) rfl (pc' := 86) rfl ?_
  refine WP.iconst at_86 (z := (1 : Int32)) rfl (pc' := 87) rfl ?_
  refine WP.iastore 9 at_87 A_b1 rfl (Nat.le_of_ble_eq_true rfl) g_b1 (pc' := 88) rfl ?_
  intro h21 K22 A_n
  replace A_b1 : Av Z h21 b1 .int [(.int (0 : Int32)), (.int (1 : Int32)), (.int (2 : Int32)), (.int (0 : Int32)), (.int (2 : Int32)), (.int (1 : Int32)), (.int (1 : Int32)), (.int (0 : Int32)), (.int (2 : Int32)), (.int (1 : Int32)), (.int 0), (.int 0), (.int 0), (.int 0), (.int 0), (.int 0), (.int 0), (.int 0)] := A_n
  clear A_n
  refine WP.dup at_88 rfl (pc' := 89) rfl ?_
  refine WP.bipush at_89 (z := (10 : Int32)) rfl (pc' := 91) rfl ?_
  refine WP.iconst at_91 (z := (2 : Int32)) rfl (pc' := 92) rfl ?_
  refine WP.iastore 10 at_92 A_b1 rfl (Nat.le_of_ble_eq_true rfl) g_b1 (pc' := 93) rfl ?_
  intro h23 K24 A_n
  replace A_b1 : Av Z h23 b1 .int [(.int (0 : Int32)), (.int (1 : Int32)), (.int (2 : Int32)), (.int (0 : Int32)), (.int (2 : Int32)), (.int (1 : Int32)), (.int (1 : Int32)), (.int (0 : Int32)), (.int (2 : Int32)), (.int (1 : Int32)), (.int (2 : Int32)), (.int 0), (.int 0), (.int 0), (.int 0), (.int 0), (.int 0), (.int 0)] := A_n
  clear A_n
  refine WP.dup at_93 rfl (pc' := 94) rfl ?_
  refine WP.bipush at_94 (z := (11 : Int32)) rfl (pc' := 96) rfl ?_
  refine WP.iconst at_96 (z := (0 : Int32)) rfl (pc' := 97) rfl ?_
  refine WP.iastore 11 at_97 A_b1 rfl (Nat.le_of_ble_eq_true rfl) g_b1 (pc' := 98) rfl ?_
  intro h25 K26 A_n
  replace A_b1 : Av Z h25 b1 .int [(.int (0 : Int32)), (.int (1 : Int32)), (.int (2 : Int32)), (.int (0 : Int32)), (.int (2 : Int32)), (.int (1 : Int32)), (.int (1 : Int32)), (.int (0 : Int32)), (.int (2 : Int32)), (.int (1 : Int32)), (.int (2 : Int32)), (.int (0 : Int32)), (.int 0), (.int 0), (.int 0), (.int 0), (.int 0), (.int 0)] := A_n
  clear A_n
  refine WP.dup at_98 rfl (pc' := 99) rfl ?_
  refine WP.bipush at_99 (z := (12 : Int32)) rfl (pc' := 101) rfl ?_
  refine WP.iconst at_101 (z := (2 : Int32)) rfl (pc' := 102) rfl ?_
  refine WP.iastore 12 at_102 A_b1 rfl (Nat.le_of_ble_eq_true rfl) g_b1 (pc' := 103) rfl ?_
  intro h27 K28 A_n
  replace A_b1 : Av Z h27 b1 .int [(.int (0 : Int32)), (.int (1 : Int32)), (.int (2 : Int32)), (.int (0 : Int32)), (.int (2 : Int32)), (.int (1 : Int32)), (.int (1 : Int32)), (.int (0 : Int32)), (.int (2 : Int32)), (.int (1 : Int32)), (.int (2 : Int32)), (.int (0 : Int32)), (.int (2 : Int32)), (.int 0), (.int 0), (.int 0), (.int 0), (.int 0)] := A_n
  clear A_n
  refine WP.dup at_103 rfl (pc' := 104) rfl ?_
  refine WP.bipush at_104 (z := (13 : Int32)) rfl (pc' := 106) rfl ?_
  refine WP.iconst at_106 (z := (0 : Int32)) rfl (pc' := 107) rfl ?_
  refine WP.iastore 13 at_107 A_b1 rfl (Nat.le_of_ble_eq_true rfl) g_b1 (pc' := 108) rfl ?_
  intro h29 K30 A_n
  replace A_b1 : Av Z h29 b1 .int [(.int (0 : Int32)), (.int (1 : Int32)), (.int (2 : Int32)), (.int (0 : Int32)), (.int (2 : Int32)), (.int (1 : Int32)), (.int (1 : Int32)), (.int (0 : Int32)), (.int (2 : Int32)), (.int (1 : Int32)), (.int (2 : Int32)), (.int (0 : Int32)), (.int (2 : Int32)), (.int (0 : Int32)), (.int 0), (.int 0), (.int 0), (.int 0)] := A_n
  clear A_n
  refine WP.dup at_108 rfl (pc' := 109) rfl ?_
  refine WP.bipush at_109 (z := (14 : Int32)) rfl (pc' := 111) rfl ?_
  refine WP.iconst at_111 (z := (1 : Int32)) rfl (pc' := 112) rfl ?_
  refine WP.iastore 14 at_112 A_b1 rfl (Nat.le_of_ble_eq_true rfl) g_b1 (pc' := 113) rfl ?_
  intro h31 K32 A_n
  replace A_b1 : Av Z h31 b1 .int [(.int (0 : Int32)), (.int (1 : Int32)), (.int (2 : Int32)), (.int (0 : Int32)), (.int (2 : Int32)), (.int (1 : Int32)), (.int (1 : Int32)), (.int (0 : Int32)), (.int (2 : Int32)), (.int (1 : Int32)), (.int (2 : Int32)), (.int (0 : Int32)), (.int (2 : Int32)), (.int (0 : Int32)), (.int (1 : Int32)), (.int 0), (.int 0), (.int 0)] := A_n
  clear A_n
  refine WP.dup at_113 rfl (pc' := 114) rfl ?_
  refine WP.bipush at_114 (z := (15 : Int32)) rfl (pc' := 116) rfl ?_
  refine WP.iconst at_116 (z := (2 : Int32)) rfl (pc' := 117) rfl ?_
  refine WP.iastore 15 at_117 A_b1 rfl (Nat.le_of_ble_eq_true rfl) g_b1 (pc' := 118) rfl ?_
  intro h33 K34 A_n
  replace A_b1 : Av Z h33 b1 .int [(.int (0 : Int32)), (.int (1 : Int32)), (.int (2 : Int32)), (.int (0 : Int32)), (.int (2 : Int32)), (.int (1 : Int32)), (.int (1 : Int32)), (.int (0 : Int32)), (.int (2 : Int32)), (.int (1 : Int32)), (.int (2 : Int32)), (.int (0 : Int32)), (.int (2 : Int32)), (.int (0 : Int32)), (.int (1 : Int32)), (.int (2 : Int32)), (.int 0), (.int 0)] := A_n
  clear A_n
  refine WP.dup at_118 rfl (pc' := 119) rfl ?_
  refine WP.bipush at_119 (z := (16 : Int32)) rfl (pc' := 121) rfl ?_
  refine WP.iconst at_121 (z := (1 : Int32)) rfl (pc' := 122) rfl ?_
  refine WP.iastore 16 at_122 A_b1 rfl (Nat.le_of_ble_eq_true rfl) g_b1 (pc' := 123) rfl ?_
  intro h35 K36 A_n
  replace A_b1 : Av Z h35 b1 .int [(.int (0 : Int32)), (.int (1 : Int32)), (.int (2 : Int32)), (.int (0 : Int32)), (.int (2 : Int32)), (.int (1 : Int32)), (.int (1 : Int32)), (.int (0 : Int32)), (.int (2 : Int32)), (.int (1 : Int32)), (.int (2 : Int32)), (.int (0 : Int32)), (.int (2 : Int32)), (.int (0 : Int32)), (.int (1 : Int32)), (.int (2 : Int32)), (.int (1 : Int32)), (.int 0)] := A_n
  clear A_n
  refine WP.dup at_123 rfl (pc' := 124) rfl ?_
  refine WP.bipush at_124 (z := (17 : Int32)) rfl (pc' := 126) rfl ?_
  refine WP.iconst at_126 (z := (0 : Int32)) rfl (pc' := 127) rfl ?_
  refine WP.iastore 17 at_127 A_b1 rfl (Nat.le_of_ble_eq_true rfl) g_b1 (pc' := 128) rfl ?_
  intro h37 K38 A_n
  replace A_b1 : Av Z h37 b1 .int [(.int (0 : Int32)), (.int (1 : Int32)), (.int (2 : Int32)), (.int (0 : Int32)), (.int (2 : Int32)), (.int (1 : Int32)), (.int (1 : Int32)), (.int (0 : Int32)), (.int (2 : Int32)), (.int (1 : Int32)), (.int (2 : Int32)), (.int (0 : Int32)), (.int (2 : Int32)), (.int (0 : Int32)), (.int (1 : Int32)), (.int (2 : Int32)), (.int (1 : Int32)), (.int (0 : Int32))] := A_n
  clear A_n
  refine WP.astore at_128 (pc' := 130) rfl rfl (ls' := #[.val (.int keys), .val (.int v0), .val (.int v1), .val (.int v2), .val (.int perm), .val (.int k0), .val (.int k1), .val (.int k2), .val (.int j), .val (.int (1 : Int32)), .val (.ref b1), .unset, .unset, .unset, .unset, .unset, .unset, .unset, .unset, .unset, .unset, .unset, .unset, .unset, .unset, .unset, .unset, .unset, .unset, .unset]) rfl ?_
  refine WP.iconst at_130 (z := (3 : Int32)) rfl (pc' := 131) rfl ?_
  refine WP.newarr at_131 (w1 hw) (k := 3) rfl 3 (by decide) (by decide) (by decide) (by decide) (pc' := 133) rfl ?_
  intro b2 h39 eb_b2 g_b2 K40 A_b2
  replace A_b2 : Av Z h39 b2 .int [.int 0, .int 0, .int 0] := A_b2
  have lt_b1_b2 : b1 < b2 := by rw [eb_b2]; exact A_b1.lt
  replace A_b1 := A_b1.keep K40 own_nil
  refine WP.dup at_133 rfl (pc' := 134) rfl ?_
  refine WP.iconst at_134 (z := (0 : Int32)) rfl (pc' := 135) rfl ?_
  refine WP.iload at_135 rfl (pc' := 137) rfl ?_
  refine WP.iastore 0 at_137 A_b2 rfl (Nat.le_of_ble_eq_true rfl) g_b2 (pc' := 138) rfl ?_
  intro h41 K42 A_n
  replace A_b1 := A_b1.keep K42 (own_cons (by first | assumption | exact Ne.symm (by assumption) | exact Nat.ne_of_lt (by assumption) | exact Nat.ne_of_gt (by assumption)) own_nil)
  replace A_b2 : Av Z h41 b2 .int [(.int k0), (.int 0), (.int 0)] := A_n
  clear A_n
  refine WP.dup at_138 rfl (pc' := 139) rfl ?_
  refine WP.iconst at_139 (z := (1 : Int32)) rfl (pc' := 140) rfl ?_
  refine WP.iload at_140 rfl (pc' := 142) rfl ?_
  refine WP.iastore 1 at_142 A_b2 rfl (Nat.le_of_ble_eq_true rfl) g_b2 (pc' := 143) rfl ?_
  intro h43 K44 A_n
  replace A_b1 := A_b1.keep K44 (own_cons (by first | assumption | exact Ne.symm (by assumption) | exact Nat.ne_of_lt (by assumption) | exact Nat.ne_of_gt (by assumption)) own_nil)
  replace A_b2 : Av Z h43 b2 .int [(.int k0), (.int k1), (.int 0)] := A_n
  clear A_n
  refine WP.dup at_143 rfl (pc' := 144) rfl ?_
  refine WP.iconst at_144 (z := (2 : Int32)) rfl (pc' := 145) rfl ?_
  refine WP.iload at_145 rfl (pc' := 147) rfl ?_
  refine WP.iastore 2 at_147 A_b2 rfl (Nat.le_of_ble_eq_true rfl) g_b2 (pc' := 148) rfl ?_
  intro h45 K46 A_n
  replace A_b1 := A_b1.keep K46 (own_cons (by first | assumption | exact Ne.symm (by assumption) | exact Nat.ne_of_lt (by assumption) | exact Nat.ne_of_gt (by assumption)) own_nil)
  replace A_b2 : Av Z h45 b2 .int [(.int k0), (.int k1), (.int k2)] := A_n
  clear A_n
  refine WP.astore at_148 (pc' := 150) rfl rfl (ls' := #[.val (.int keys), .val (.int v0), .val (.int v1), .val (.int v2), .val (.int perm), .val (.int k0), .val (.int k1), .val (.int k2), .val (.int j), .val (.int (1 : Int32)), .val (.ref b1), .val (.ref b2), .unset, .unset, .unset, .unset, .unset, .unset, .unset, .unset, .unset, .unset, .unset, .unset, .unset, .unset, .unset, .unset, .unset, .unset]) rfl ?_
  refine WP.iconst at_150 (z := (3 : Int32)) rfl (pc' := 151) rfl ?_
  refine WP.newarr at_151 (w1 hw) (k := 3) rfl 3 (by decide) (by decide) (by decide) (by decide) (pc' := 153) rfl ?_
  intro b3 h47 eb_b3 g_b3 K48 A_b3
  replace A_b3 : Av Z h47 b3 .int [.int 0, .int 0, .int 0] := A_b3
  have lt_b1_b3 : b1 < b3 := by rw [eb_b3]; exact A_b1.lt
  have lt_b2_b3 : b2 < b3 := by rw [eb_b3]; exact A_b2.lt
  replace A_b1 := A_b1.keep K48 own_nil
  replace A_b2 := A_b2.keep K48 own_nil
  refine WP.dup at_153 rfl (pc' := 154) rfl ?_
  refine WP.iconst at_154 (z := (0 : Int32)) rfl (pc' := 155) rfl ?_
  refine WP.iloadN at_155 rfl (pc' := 156) rfl ?_
  refine WP.iastore 0 at_156 A_b3 rfl (Nat.le_of_ble_eq_true rfl) g_b3 (pc' := 157) rfl ?_
  intro h49 K50 A_n
  replace A_b1 := A_b1.keep K50 (own_cons (by first | assumption | exact Ne.symm (by assumption) | exact Nat.ne_of_lt (by assumption) | exact Nat.ne_of_gt (by assumption)) own_nil)
  replace A_b2 := A_b2.keep K50 (own_cons (by first | assumption | exact Ne.symm (by assumption) | exact Nat.ne_of_lt (by assumption) | exact Nat.ne_of_gt (by assumption)) own_nil)
  replace A_b3 : Av Z h49 b3 .int [(.int v0), (.int 0), (.int 0)] := A_n
  clear A_n
  refine WP.dup at_157 rfl (pc' := 158) rfl ?_
  refine WP.iconst at_158 (z := (1 : Int32)) rfl (pc' := 159) rfl ?_
  refine WP.iloadN at_159 rfl (pc' := 160) rfl ?_
  refine WP.iastore 1 at_160 A_b3 rfl (Nat.le_of_ble_eq_true rfl) g_b3 (pc' := 161) rfl ?_
  intro h51 K52 A_n
  replace A_b1 := A_b1.keep K52 (own_cons (by first | assumption | exact Ne.symm (by assumption) | exact Nat.ne_of_lt (by assumption) | exact Nat.ne_of_gt (by assumption)) own_nil)
  replace A_b2 := A_b2.keep K52 (own_cons (by first | assumption | exact Ne.symm (by assumption) | exact Nat.ne_of_lt (by assumption) | exact Nat.ne_of_gt (by assumption)) own_nil)
  replace A_b3 : Av Z h51 b3 .int [(.int v0), (.int v1), (.int 0)] := A_n
  clear A_n
  refine WP.dup at_161 rfl (pc' := 162) rfl ?_
  refine WP.iconst at_162 (z := (2 : Int32)) rfl (pc' := 163) rfl ?_
  refine WP.iloadN at_163 rfl (pc' := 164) rfl ?_
  refine WP.iastore 2 at_164 A_b3 rfl (Nat.le_of_ble_eq_true rfl) g_b3 (pc' := 165) rfl ?_
  intro h53 K54 A_n
  replace A_b1 := A_b1.keep K54 (own_cons (by first | assumption | exact Ne.symm (by assumption) | exact Nat.ne_of_lt (by assumption) | exact Nat.ne_of_gt (by assumption)) own_nil)
  replace A_b2 := A_b2.keep K54 (own_cons (by first | assumption | exact Ne.symm (by assumption) | exact Nat.ne_of_lt (by assumption) | exact Nat.ne_of_gt (by assumption)) own_nil)
  replace A_b3 : Av Z h53 b3 .int [(.int v0), (.int v1), (.int v2)] := A_n
  clear A_n
  refine WP.astore at_165 (pc' := 167) rfl rfl (ls' := #[.val (.int keys), .val (.int v0), .val (.int v1), .val (.int v2), .val (.int perm), .val (.int k0), .val (.int k1), .val (.int k2), .val (.int j), .val (.int (1 : Int32)), .val (.ref b1), .val (.ref b2), .val (.ref b3), .unset, .unset, .unset, .unset, .unset, .unset, .unset, .unset, .unset, .unset, .unset, .unset, .unset, .unset, .unset, .unset, .unset]) rfl ?_
  refine WP.aload at_167 rfl rfl (pc' := 169) rfl ?_
  refine WP.iconst at_169 (z := (3 : Int32)) rfl (pc' := 170) rfl ?_
  refine WP.iload at_170 rfl (pc' := 172) rfl ?_
  refine WP.imul at_172 (pc' := 173) rfl ?_
  rw [show (((3 : Int32) * (1 : Int32)) : Int32) = (3 : Int32) from by decide]
  refine WP.iaload 3 at_173 A_b1 (x := (0 : Int32)) rfl rfl (pc' := 174) rfl ?_
  refine WP.istore at_174 (pc' := 176) rfl (ls' := #[.val (.int keys), .val (.int v0), .val (.int v1), .val (.int v2), .val (.int perm), .val (.int k0), .val (.int k1), .val (.int k2), .val (.int j), .val (.int (1 : Int32)), .val (.ref b1), .val (.ref b2), .val (.ref b3), .val (.int (0 : Int32)), .unset, .unset, .unset, .unset, .unset, .unset, .unset, .unset, .unset, .unset, .unset, .unset, .unset, .unset, .unset, .unset]) rfl ?_
  refine WP.aload at_176 rfl rfl (pc' := 178) rfl ?_
  refine WP.iconst at_178 (z := (3 : Int32)) rfl (pc' := 179) rfl ?_
  refine WP.iload at_179 rfl (pc' := 181) rfl ?_
  refine WP.imul at_181 (pc' := 182) rfl ?_
  rw [show (((3 : Int32) * (1 : Int32)) : Int32) = (3 : Int32) from by decide]
  refine WP.iconst at_182 (z := (1 : Int32)) rfl (pc' := 183) rfl ?_
  refine WP.iadd at_183 (pc' := 184) rfl ?_
  rw [show (((3 : Int32) + (1 : Int32)) : Int32) = (4 : Int32) from by decide]
  refine WP.iaload 4 at_184 A_b1 (x := (2 : Int32)) rfl rfl (pc' := 185) rfl ?_
  refine WP.istore at_185 (pc' := 187) rfl (ls' := #[.val (.int keys), .val (.int v0), .val (.int v1), .val (.int v2), .val (.int perm), .val (.int k0), .val (.int k1), .val (.int k2), .val (.int j), .val (.int (1 : Int32)), .val (.ref b1), .val (.ref b2), .val (.ref b3), .val (.int (0 : Int32)), .val (.int (2 : Int32)), .unset, .unset, .unset, .unset, .unset, .unset, .unset, .unset, .unset, .unset, .unset, .unset, .unset, .unset, .unset]) rfl ?_
  refine WP.aload at_187 rfl rfl (pc' := 189) rfl ?_
  refine WP.iconst at_189 (z := (3 : Int32)) rfl (pc' := 190) rfl ?_
  refine WP.iload at_190 rfl (pc' := 192) rfl ?_
  refine WP.imul at_192 (pc' := 193) rfl ?_
  rw [show (((3 : Int32) * (1 : Int32)) : Int32) = (3 : Int32) from by decide]
  refine WP.iconst at_193 (z := (2 : Int32)) rfl (pc' := 194) rfl ?_
  refine WP.iadd at_194 (pc' := 195) rfl ?_
  rw [show (((3 : Int32) + (2 : Int32)) : Int32) = (5 : Int32) from by decide]
  refine WP.iaload 5 at_195 A_b1 (x := (1 : Int32)) rfl rfl (pc' := 196) rfl ?_
  refine WP.istore at_196 (pc' := 198) rfl (ls' := #[.val (.int keys), .val (.int v0), .val (.int v1), .val (.int v2), .val (.int perm), .val (.int k0), .val (.int k1), .val (.int k2), .val (.int j), .val (.int (1 : Int32)), .val (.ref b1), .val (.ref b2), .val (.ref b3), .val (.int (0 : Int32)), .val (.int (2 : Int32)), .val (.int (1 : Int32)), .unset, .unset, .unset, .unset, .unset, .unset, .unset, .unset, .unset, .unset, .unset, .unset, .unset, .unset]) rfl ?_
  refine WP.aload at_198 rfl rfl (pc' := 200) rfl ?_
  refine WP.iload at_200 rfl (pc' := 202) rfl ?_
  refine WP.iaload 0 at_202 A_b2 (x := k0) rfl rfl (pc' := 203) rfl ?_
  refine WP.istore at_203 (pc' := 205) rfl (ls' := #[.val (.int keys), .val (.int v0), .val (.int v1), .val (.int v2), .val (.int perm), .val (.int k0), .val (.int k1), .val (.int k2), .val (.int j), .val (.int (1 : Int32)), .val (.ref b1), .val (.ref b2), .val (.ref b3), .val (.int (0 : Int32)), .val (.int (2 : Int32)), .val (.int (1 : Int32)), .val (.int k0), .unset, .unset, .unset, .unset, .unset, .unset, .unset, .unset, .unset, .unset, .unset, .unset, .unset]) rfl ?_
  refine WP.aload at_205 rfl rfl (pc' := 207) rfl ?_
  refine WP.iload at_207 rfl (pc' := 209) rfl ?_
  refine WP.iaload 2 at_209 A_b2 (x := k2) rfl rfl (pc' := 210) rfl ?_
  refine WP.istore at_210 (pc' := 212) rfl (ls' := #[.val (.int keys), .val (.int v0), .val (.int v1), .val (.int v2), .val (.int perm), .val (.int k0), .val (.int k1), .val (.int k2), .val (.int j), .val (.int (1 : Int32)), .val (.ref b1), .val (.ref b2), .val (.ref b3), .val (.int (0 : Int32)), .val (.int (2 : Int32)), .val (.int (1 : Int32)), .val (.int k0), .val (.int k2), .unset, .unset, .unset, .unset, .unset, .unset, .unset, .unset, .unset, .unset, .unset, .unset]) rfl ?_
  refine WP.aload at_212 rfl rfl (pc' := 214) rfl ?_
  refine WP.iload at_214 rfl (pc' := 216) rfl ?_
  refine WP.iaload 1 at_216 A_b2 (x := k1) rfl rfl (pc' := 217) rfl ?_
  refine WP.istore at_217 (pc' := 219) rfl (ls' := #[.val (.int keys), .val (.int v0), .val (.int v1), .val (.int v2), .val (.int perm), .val (.int k0), .val (.int k1), .val (.int k2), .val (.int j), .val (.int (1 : Int32)), .val (.ref b1), .val (.ref b2), .val (.ref b3), .val (.int (0 : Int32)), .val (.int (2 : Int32)), .val (.int (1 : Int32)), .val (.int k0), .val (.int k2), .val (.int k1), .unset, .unset, .unset, .unset, .unset, .unset, .unset, .unset, .unset, .unset, .unset]) rfl ?_
  refine WP.aload at_219 rfl rfl (pc' := 221) rfl ?_
  refine WP.iload at_221 rfl (pc' := 223) rfl ?_
  refine WP.iaload 0 at_223 A_b3 (x := v0) rfl rfl (pc' := 224) rfl ?_
  refine WP.istore at_224 (pc' := 226) rfl (ls' := #[.val (.int keys), .val (.int v0), .val (.int v1), .val (.int v2), .val (.int perm), .val (.int k0), .val (.int k1), .val (.int k2), .val (.int j), .val (.int (1 : Int32)), .val (.ref b1), .val (.ref b2), .val (.ref b3), .val (.int (0 : Int32)), .val (.int (2 : Int32)), .val (.int (1 : Int32)), .val (.int k0), .val (.int k2), .val (.int k1), .val (.int v0), .unset, .unset, .unset, .unset, .unset, .unset, .unset, .unset, .unset, .unset]) rfl ?_
  refine WP.aload at_226 rfl rfl (pc' := 228) rfl ?_
  refine WP.iload at_228 rfl (pc' := 230) rfl ?_
  refine WP.iaload 2 at_230 A_b3 (x := v2) rfl rfl (pc' := 231) rfl ?_
  refine WP.istore at_231 (pc' := 233) rfl (ls' := #[.val (.int keys), .val (.int v0), .val (.int v1), .val (.int v2), .val (.int perm), .val (.int k0), .val (.int k1), .val (.int k2), .val (.int j), .val (.int (1 : Int32)), .val (.ref b1), .val (.ref b2), .val (.ref b3), .val (.int (0 : Int32)), .val (.int (2 : Int32)), .val (.int (1 : Int32)), .val (.int k0), .val (.int k2), .val (.int k1), .val (.int v0), .val (.int v2), .unset, .unset, .unset, .unset, .unset, .unset, .unset, .unset, .unset]) rfl ?_
  refine WP.aload at_233 rfl rfl (pc' := 235) rfl ?_
  refine WP.iload at_235 rfl (pc' := 237) rfl ?_
  refine WP.iaload 1 at_237 A_b3 (x := v1) rfl rfl (pc' := 238) rfl ?_
  refine WP.istore at_238 (pc' := 240) rfl (ls' := #[.val (.int keys), .val (.int v0), .val (.int v1), .val (.int v2), .val (.int perm), .val (.int k0), .val (.int k1), .val (.int k2), .val (.int j), .val (.int (1 : Int32)), .val (.ref b1), .val (.ref b2), .val (.ref b3), .val (.int (0 : Int32)), .val (.int (2 : Int32)), .val (.int (1 : Int32)), .val (.int k0), .val (.int k2), .val (.int k1), .val (.int v0), .val (.int v2), .val (.int v1), .unset, .unset, .unset, .unset, .unset, .unset, .unset, .unset]) rfl ?_
  refine WP.iload at_240 rfl (pc' := 242) rfl ?_
  refine WP.iload at_242 rfl (pc' := 244) rfl ?_
  refine WP.iload at_244 rfl (pc' := 246) rfl ?_
  refine WP.iload at_246 rfl (pc' := 248) rfl ?_
  refine WP.callS (y := (⟨"com/example/stampwise/stampwise/history/IntGroupsPlacePinLaw", "below", "(IIII)I"⟩ : MethodName)) (By := B1) (as := [(.int k0), (.int k1), (.int k2), (.int k0)]) (rest := []) at_248 (w2 hw) (w3 hw) (w4 hw) (w5 hw) (by decide) (bel_met hw k0 k1 k2 k0 m0 m1 m2 m0 hk0 hk1 hk2 hk0) pd_0 rfl rfl rfl (by decide) (Nat.le_of_ble_eq_true rfl) (by decide) (by decide) (pc' := 251) rfl ?_
  rintro _ _ ⟨rfl, ea, rfl, hea⟩
  show WP _ _ _ _ _ _ _ _ _ _ [(.int ea)]
  refine WP.istore at_251 (pc' := 253) rfl (ls' := #[.val (.int keys), .val (.int v0), .val (.int v1), .val (.int v2), .val (.int perm), .val (.int k0), .val (.int k1), .val (.int k2), .val (.int j), .val (.int (1 : Int32)), .val (.ref b1), .val (.ref b2), .val (.ref b3), .val (.int (0 : Int32)), .val (.int (2 : Int32)), .val (.int (1 : Int32)), .val (.int k0), .val (.int k2), .val (.int k1), .val (.int v0), .val (.int v2), .val (.int v1), .val (.int ea), .unset, .unset, .unset, .unset, .unset, .unset, .unset]) rfl ?_
  refine WP.iload at_253 rfl (pc' := 255) rfl ?_
  refine WP.iload at_255 rfl (pc' := 257) rfl ?_
  refine WP.iload at_257 rfl (pc' := 259) rfl ?_
  refine WP.iload at_259 rfl (pc' := 261) rfl ?_
  refine WP.callS (y := (⟨"com/example/stampwise/stampwise/history/IntGroupsPlacePinLaw", "below", "(IIII)I"⟩ : MethodName)) (By := B1) (as := [(.int k0), (.int k1), (.int k2), (.int k2)]) (rest := []) at_261 (w2 hw) (w3 hw) (w4 hw) (w5 hw) (by decide) (bel_met hw k0 k1 k2 k2 m0 m1 m2 m2 hk0 hk1 hk2 hk2) pd_0 rfl rfl rfl (by decide) (Nat.le_of_ble_eq_true rfl) (by decide) (by decide) (pc' := 264) rfl ?_
  rintro _ _ ⟨rfl, r1, rfl, hr1⟩
  show WP _ _ _ _ _ _ _ _ _ _ [(.int r1)]
  refine WP.iload at_264 rfl (pc' := 266) rfl ?_
  refine WP.iload at_266 rfl (pc' := 268) rfl ?_
  refine WP.callS (y := (⟨"com/example/stampwise/stampwise/history/IntGroupsPlacePinLaw", "same", "(II)I"⟩ : MethodName)) (By := B2) (as := [(.int k0), (.int k2)]) (rest := [(.int r1)]) at_268 (w6 hw) (w7 hw) (w4 hw) (w8 hw) (by decide) (sam_met hw k0 k2 m0 m2 hk0 hk2) pd_1 rfl rfl rfl (by decide) (Nat.le_of_ble_eq_true rfl) (by decide) (by decide) (pc' := 271) rfl ?_
  rintro _ _ ⟨rfl, r2, rfl, hr2⟩
  show WP _ _ _ _ _ _ _ _ _ _ [(.int r2), (.int r1)]
  refine WP.iadd at_271 (pc' := 272) rfl ?_
  obtain ⟨eb, e_eb⟩ : ∃ z, z = (r1 + r2) := ⟨_, rfl⟩
  rw [← e_eb]
  refine WP.istore at_272 (pc' := 274) rfl (ls' := #[.val (.int keys), .val (.int v0), .val (.int v1), .val (.int v2), .val (.int perm), .val (.int k0), .val (.int k1), .val (.int k2), .val (.int j), .val (.int (1 : Int32)), .val (.ref b1), .val (.ref b2), .val (.ref b3), .val (.int (0 : Int32)), .val (.int (2 : Int32)), .val (.int (1 : Int32)), .val (.int k0), .val (.int k2), .val (.int k1), .val (.int v0), .val (.int v2), .val (.int v1), .val (.int ea), .val (.int eb), .unset, .unset, .unset, .unset, .unset, .unset]) rfl ?_
  refine WP.iload at_274 rfl (pc' := 276) rfl ?_
  refine WP.iload at_276 rfl (pc' := 278) rfl ?_
  refine WP.iload at_278 rfl (pc' := 280) rfl ?_
  refine WP.iload at_280 rfl (pc' := 282) rfl ?_
  refine WP.callS (y := (⟨"com/example/stampwise/stampwise/history/IntGroupsPlacePinLaw", "below", "(IIII)I"⟩ : MethodName)) (By := B1) (as := [(.int k0), (.int k1), (.int k2), (.int k1)]) (rest := []) at_282 (w2 hw) (w3 hw) (w4 hw) (w5 hw) (by decide) (bel_met hw k0 k1 k2 k1 m0 m1 m2 m1 hk0 hk1 hk2 hk1) pd_0 rfl rfl rfl (by decide) (Nat.le_of_ble_eq_true rfl) (by decide) (by decide) (pc' := 285) rfl ?_
  rintro _ _ ⟨rfl, r3, rfl, hr3⟩
  show WP _ _ _ _ _ _ _ _ _ _ [(.int r3)]
  refine WP.iload at_285 rfl (pc' := 287) rfl ?_
  refine WP.iload at_287 rfl (pc' := 289) rfl ?_
  refine WP.callS (y := (⟨"com/example/stampwise/stampwise/history/IntGroupsPlacePinLaw", "same", "(II)I"⟩ : MethodName)) (By := B2) (as := [(.int k0), (.int k1)]) (rest := [(.int r3)]) at_289 (w6 hw) (w7 hw) (w4 hw) (w8 hw) (by decide) (sam_met hw k0 k1 m0 m1 hk0 hk1) pd_1 rfl rfl rfl (by decide) (Nat.le_of_ble_eq_true rfl) (by decide) (by decide) (pc' := 292) rfl ?_
  rintro _ _ ⟨rfl, r4, rfl, hr4⟩
  show WP _ _ _ _ _ _ _ _ _ _ [(.int r4), (.int r3)]
  refine WP.iadd at_292 (pc' := 293) rfl ?_
  refine WP.iload at_293 rfl (pc' := 295) rfl ?_
  refine WP.iload at_295 rfl (pc' := 297) rfl ?_
  refine WP.callS (y := (⟨"com/example/stampwise/stampwise/history/IntGroupsPlacePinLaw", "same", "(II)I"⟩ : MethodName)) (By := B2) (as := [(.int k2), (.int k1)]) (rest := [(.int (r3 + r4))]) at_297 (w6 hw) (w7 hw) (w4 hw) (w8 hw) (by decide) (sam_met hw k2 k1 m2 m1 hk2 hk1) pd_1 rfl rfl rfl (by decide) (Nat.le_of_ble_eq_true rfl) (by decide) (by decide) (pc' := 300) rfl ?_
  rintro _ _ ⟨rfl, r5, rfl, hr5⟩
  show WP _ _ _ _ _ _ _ _ _ _ [(.int r5), (.int (r3 + r4))]
  refine WP.iadd at_300 (pc' := 301) rfl ?_
  obtain ⟨ec, e_ec⟩ : ∃ z, z = ((r3 + r4) + r5) := ⟨_, rfl⟩
  rw [← e_ec]
  refine WP.istore at_301 (pc' := 303) rfl (ls' := #[.val (.int keys), .val (.int v0), .val (.int v1), .val (.int v2), .val (.int perm), .val (.int k0), .val (.int k1), .val (.int k2), .val (.int j), .val (.int (1 : Int32)), .val (.ref b1), .val (.ref b2), .val (.ref b3), .val (.int (0 : Int32)), .val (.int (2 : Int32)), .val (.int (1 : Int32)), .val (.int k0), .val (.int k2), .val (.int k1), .val (.int v0), .val (.int v2), .val (.int v1), .val (.int ea), .val (.int eb), .val (.int ec), .unset, .unset, .unset, .unset, .unset]) rfl ?_
  have bb (a b d k : Nat) : bel a b d k ≤ 3 := by simp only [bel]; split <;> split <;> split <;> omega
  have ss (a b : Nat) : sam a b ≤ 1 := by simp only [sam]; split <;> omega
  have y1 := bb m0 m1 m2 m2
  have y2 := ss m0 m2
  have y3 := bb m0 m1 m2 m1
  have y4 := ss m0 m1
  have y5 := ss m2 m1
  have feb : eb.toInt = ((bel m0 m1 m2 m2 + sam m0 m2 : Nat) : Int) := by rw [e_eb, own_iadd] <;> omega
  have fe1 : (r3 + r4).toInt = r3.toInt + r4.toInt := by rw [own_iadd] <;> omega
  have fec : ec.toInt = ((bel m0 m1 m2 m1 + sam m0 m1 + sam m2 m1 : Nat) : Int) := by rw [e_ec, own_iadd] <;> omega
  obtain ⟨⟨p1, p2, p3, p4, p5, p6, p7, p8, p9, p10, p11, p12, p13⟩, pj⟩ := pure_1 ⟨m0, l0⟩ ⟨m1, l1⟩ ⟨m2, l2⟩
  obtain ⟨pj1, pj2⟩ := pj ⟨mj, lj⟩
  simp only at p1 p2 p3 p4 p5 p6 p7 p8 p9 p10 p11 p12 p13 pj1 pj2
  clear bb ss y1 y2 y3 y4 y5 fe1
  refine WP.newobj (lay := L_IG) (vs := [.null, .null]) at_303 (w9 hw) (w10 hw) (w11 hw) (lay_IG hw) rfl (by decide) (by decide) (pc' := 306) rfl ?_
  intro g h61 eb_g g_g K62 O_g
  have lt_b1_g : b1 < g := by rw [eb_g]; exact A_b1.lt
  have lt_b2_g : b2 < g := by rw [eb_g]; exact A_b2.lt
  have lt_b3_g : b3 < g := by rw [eb_g]; exact A_b3.lt
  replace A_b1 := A_b1.keep K62 own_nil
  replace A_b2 := A_b2.keep K62 own_nil
  replace A_b3 := A_b3.keep K62 own_nil
  refine WP.dup at_306 rfl (pc' := 307) rfl ?_
  refine WP.iconst at_307 (z := (4 : Int32)) rfl (pc' := 308) rfl ?_
  refine WP.callI (a := g) (y := (⟨"com/example/stampwise/stampwise/history/IntGroups", "<init>", "(I)V"⟩ : MethodName)) (By := B3) (as := [(.int (4 : Int32))]) (rest := [(.ref g)]) at_308 (w12 hw) (w13 hw) (w11 hw) (w14 hw) rfl rfl (by decide) (ini_met hw g g_g O_g) pd_2 rfl rfl rfl (by decide) (Nat.le_of_ble_eq_true rfl) (by decide) (by decide) (pc' := 311) rfl ?_
  rintro _ h63 ⟨rfl, hI⟩
  show WP _ _ _ _ _ _ _ _ _ _ [(.ref g)]
  refine WP.astore at_311 (pc' := 313) rfl rfl (ls' := #[.val (.int keys), .val (.int v0), .val (.int v1), .val (.int v2), .val (.int perm), .val (.int k0), .val (.int k1), .val (.int k2), .val (.int j), .val (.int (1 : Int32)), .val (.ref b1), .val (.ref b2), .val (.ref b3), .val (.int (0 : Int32)), .val (.int (2 : Int32)), .val (.int (1 : Int32)), .val (.int k0), .val (.int k2), .val (.int k1), .val (.int v0), .val (.int v2), .val (.int v1), .val (.int ea), .val (.int eb), .val (.int ec), .val (.ref g), .unset, .unset, .unset, .unset]) rfl ?_
  refine WP.aload at_313 rfl rfl (pc' := 315) rfl ?_
  refine WP.iload at_315 rfl (pc' := 317) rfl ?_
  refine WP.callV (a := g) (z := (⟨"com/example/stampwise/stampwise/history/IntGroups", "count", "(I)V"⟩ : MethodName)) (Cl := "com/example/stampwise/stampwise/history/IntGroups") (y := (⟨"com/example/stampwise/stampwise/history/IntGroups", "count", "(I)V"⟩ : MethodName)) (By := B5) (as := [(.int k0)]) (rest := []) at_317 (w20 hw) (w21 hw) (w23 hw) (w22 hw) (w11 hw) (w24 hw) rfl rfl (by decide) hI.exa (cou_met hw g k0 m0 _ hI hk0 l0 p1) pd_2 rfl rfl rfl (by decide) (Nat.le_of_ble_eq_true rfl) (by decide) (by decide) (pc' := 320) rfl ?_
  rintro _ h64 ⟨rfl, hI⟩
  show WP _ _ _ _ _ _ _ _ _ _ []
  refine WP.aload at_320 rfl rfl (pc' := 322) rfl ?_
  refine WP.iload at_322 rfl (pc' := 324) rfl ?_
  refine WP.callV (a := g) (z := (⟨"com/example/stampwise/stampwise/history/IntGroups", "count", "(I)V"⟩ : MethodName)) (Cl := "com/example/stampwise/stampwise/history/IntGroups") (y := (⟨"com/example/stampwise/stampwise/history/IntGroups", "count", "(I)V"⟩ : MethodName)) (By := B5) (as := [(.int k1)]) (rest := []) at_324 (w20 hw) (w21 hw) (w23 hw) (w22 hw) (w11 hw) (w24 hw) rfl rfl (by decide) hI.exa (cou_met hw g k1 m1 _ hI hk1 l1 p2) pd_2 rfl rfl rfl (by decide) (Nat.le_of_ble_eq_true rfl) (by decide) (by decide) (pc' := 327) rfl ?_
  rintro _ h65 ⟨rfl, hI⟩
  show WP _ _ _ _ _ _ _ _ _ _ []
  refine WP.aload at_327 rfl rfl (pc' := 329) rfl ?_
  refine WP.iload at_329 rfl (pc' := 331) rfl ?_
  refine WP.callV (a := g) (z := (⟨"com/example/stampwise/stampwise/history/IntGroups", "count", "(I)V"⟩ : MethodName)) (Cl := "com/example/stampwise/stampwise/history/IntGroups") (y := (⟨"com/example/stampwise/stampwise/history/IntGroups", "count", "(I)V"⟩ : MethodName)) (By := B5) (as := [(.int k2)]) (rest := []) at_331 (w20 hw) (w21 hw) (w23 hw) (w22 hw) (w11 hw) (w24 hw) rfl rfl (by decide) hI.exa (cou_met hw g k2 m2 _ hI hk2 l2 p3) pd_2 rfl rfl rfl (by decide) (Nat.le_of_ble_eq_true rfl) (by decide) (by decide) (pc' := 334) rfl ?_
  rintro _ h66 ⟨rfl, hI⟩
  show WP _ _ _ _ _ _ _ _ _ _ []
  refine WP.aload at_334 rfl rfl (pc' := 336) rfl ?_
  refine WP.callV (a := g) (z := (⟨"com/example/stampwise/stampwise/history/IntGroups", "startPlacing", "()V"⟩ : MethodName)) (Cl := "com/example/stampwise/stampwise/history/IntGroups") (y := (⟨"com/example/stampwise/stampwise/history/IntGroups", "startPlacing", "()V"⟩ : MethodName)) (By := B6) (as := []) (rest := []) at_336 (w25 hw) (w26 hw) (w28 hw) (w27 hw) (w11 hw) (w29 hw) rfl rfl (by decide) hI.exa (stp_met hw g _ hI p4) pd_3 rfl rfl rfl (by decide) (Nat.le_of_ble_eq_true rfl) (by decide) (by decide) (pc' := 339) rfl ?_
  rintro _ h67 ⟨rfl, hI⟩
  show WP _ _ _ _ _ _ _ _ _ _ []
  refine WP.aload at_339 rfl rfl (pc' := 341) rfl ?_
  refine WP.iload at_341 rfl (pc' := 343) rfl ?_
  refine WP.iload at_343 rfl (pc' := 345) rfl ?_
  refine WP.callV (a := g) (z := (⟨"com/example/stampwise/stampwise/history/IntGroups", "place", "(II)I"⟩ : MethodName)) (Cl := "com/example/stampwise/stampwise/history/IntGroups") (y := (⟨"com/example/stampwise/stampwise/history/IntGroups", "place", "(II)I"⟩ : MethodName)) (By := B7) (as := [(.int k0), (.int v0)]) (rest := []) at_345 (w36 hw) (w37 hw) (w39 hw) (w38 hw) (w11 hw) (w40 hw) rfl rfl (by decide) hI.exa (plc_met hw g k0 v0 m0 _ _ hI hk0 l0 (by omega) (by simpa using p5)) pd_1 rfl rfl rfl (by decide) (Nat.le_of_ble_eq_true rfl) (by decide) (by decide) (pc' := 348) rfl ?_
  rintro _ h68 ⟨ra, rfl, hra, hI⟩
  show WP _ _ _ _ _ _ _ _ _ _ [(.int ra)]
  refine WP.istore at_348 (pc' := 350) rfl (ls' := #[.val (.int keys), .val (.int v0), .val (.int v1), .val (.int v2), .val (.int perm), .val (.int k0), .val (.int k1), .val (.int k2), .val (.int j), .val (.int (1 : Int32)), .val (.ref b1), .val (.ref b2), .val (.ref b3), .val (.int (0 : Int32)), .val (.int (2 : Int32)), .val (.int (1 : Int32)), .val (.int k0), .val (.int k2), .val (.int k1), .val (.int v0), .val (.int v2), .val (.int v1), .val (.int ea), .val (.int eb), .val (.int ec), .val (.ref g), .val (.int ra), .unset, .unset, .unset]) rfl ?_
  refine WP.aload at_350 rfl rfl (pc' := 352) rfl ?_
  refine WP.iload at_352 rfl (pc' := 354) rfl ?_
  refine WP.iload at_354 rfl (pc' := 356) rfl ?_
  refine WP.callV (a := g) (z := (⟨"com/example/stampwise/stampwise/history/IntGroups", "place", "(II)I"⟩ : MethodName)) (Cl := "com/example/stampwise/stampwise/history/IntGroups") (y := (⟨"com/example/stampwise/stampwise/history/IntGroups", "place", "(II)I"⟩ : MethodName)) (By := B7) (as := [(.int k2), (.int v2)]) (rest := []) at_356 (w36 hw) (w37 hw) (w39 hw) (w38 hw) (w11 hw) (w40 hw) rfl rfl (by decide) hI.exa (plc_met hw g k2 v2 m2 _ _ hI hk2 l2 (by omega) (by simpa using p6)) pd_1 rfl rfl rfl (by decide) (Nat.le_of_ble_eq_true rfl) (by decide) (by decide) (pc' := 359) rfl ?_
  rintro _ h69 ⟨rb, rfl, hrb, hI⟩
  show WP _ _ _ _ _ _ _ _ _ _ [(.int rb)]
  refine WP.istore at_359 (pc' := 361) rfl (ls' := #[.val (.int keys), .val (.int v0), .val (.int v1), .val (.int v2), .val (.int perm), .val (.int k0), .val (.int k1), .val (.int k2), .val (.int j), .val (.int (1 : Int32)), .val (.ref b1), .val (.ref b2), .val (.ref b3), .val (.int (0 : Int32)), .val (.int (2 : Int32)), .val (.int (1 : Int32)), .val (.int k0), .val (.int k2), .val (.int k1), .val (.int v0), .val (.int v2), .val (.int v1), .val (.int ea), .val (.int eb), .val (.int ec), .val (.ref g), .val (.int ra), .val (.int rb), .unset, .unset]) rfl ?_
  refine WP.aload at_361 rfl rfl (pc' := 363) rfl ?_
  refine WP.iload at_363 rfl (pc' := 365) rfl ?_
  refine WP.iload at_365 rfl (pc' := 367) rfl ?_
  refine WP.callV (a := g) (z := (⟨"com/example/stampwise/stampwise/history/IntGroups", "place", "(II)I"⟩ : MethodName)) (Cl := "com/example/stampwise/stampwise/history/IntGroups") (y := (⟨"com/example/stampwise/stampwise/history/IntGroups", "place", "(II)I"⟩ : MethodName)) (By := B7) (as := [(.int k1), (.int v1)]) (rest := []) at_367 (w36 hw) (w37 hw) (w39 hw) (w38 hw) (w11 hw) (w40 hw) rfl rfl (by decide) hI.exa (plc_met hw g k1 v1 m1 _ _ hI hk1 l1 (by omega) (by simpa using p7)) pd_1 rfl rfl rfl (by decide) (Nat.le_of_ble_eq_true rfl) (by decide) (by decide) (pc' := 370) rfl ?_
  rintro _ h70 ⟨rc, rfl, hrc, hI⟩
  show WP _ _ _ _ _ _ _ _ _ _ [(.int rc)]
  refine WP.istore at_370 (pc' := 372) rfl (ls' := #[.val (.int keys), .val (.int v0), .val (.int v1), .val (.int v2), .val (.int perm), .val (.int k0), .val (.int k1), .val (.int k2), .val (.int j), .val (.int (1 : Int32)), .val (.ref b1), .val (.ref b2), .val (.ref b3), .val (.int (0 : Int32)), .val (.int (2 : Int32)), .val (.int (1 : Int32)), .val (.int k0), .val (.int k2), .val (.int k1), .val (.int v0), .val (.int v2), .val (.int v1), .val (.int ea), .val (.int eb), .val (.int ec), .val (.ref g), .val (.int ra), .val (.int rb), .val (.int rc), .unset]) rfl ?_
  refine WP.iload at_372 rfl (pc' := 374) rfl ?_
  refine WP.iload at_374 rfl (pc' := 376) rfl ?_
  refine WP.icmpNe at_376 (tgt := 393) (by decide) (pc' := 379) rfl (fun c376 => ?_) (fun c376 => ?_)
  · exfalso; omega
  refine WP.iload at_379 rfl (pc' := 381) rfl ?_
  refine WP.iload at_381 rfl (pc' := 383) rfl ?_
  refine WP.icmpNe at_383 (tgt := 393) (by decide) (pc' := 386) rfl (fun c383 => ?_) (fun c383 => ?_)
  · exfalso; omega
  refine WP.iload at_386 rfl (pc' := 388) rfl ?_
  refine WP.iload at_388 rfl (pc' := 390) rfl ?_
  refine WP.icmpEq at_390 (tgt := 395) (by decide) (pc' := 393) rfl (fun c390 => ?_) (fun c390 => ?_)
  ·
    refine WP.aload at_395 rfl rfl (pc' := 397) rfl ?_
    refine WP.callV (a := g) (z := (⟨"com/example/stampwise/stampwise/history/IntGroups", "values", "()[I"⟩ : MethodName)) (Cl := "com/example/stampwise/stampwise/history/IntGroups") (y := (⟨"com/example/stampwise/stampwise/history/IntGroups", "values", "()[I"⟩ : MethodName)) (By := B8) (as := []) (rest := []) at_397 (w41 hw) (w42 hw) (w44 hw) (w43 hw) (w11 hw) (w45 hw) rfl rfl (by decide) hI.exa (vls_met hw g _ _ hI) pd_4 rfl rfl rfl (by decide) (Nat.le_of_ble_eq_true rfl) (by decide) (by decide) (pc' := 400) rfl ?_
    rintro _ h71 ⟨wa, rfl, A_wa, hI⟩
    show WP _ _ _ _ _ _ _ _ _ _ [(.ref wa)]
    refine WP.astore at_400 (pc' := 402) rfl rfl (ls' := #[.val (.int keys), .val (.int v0), .val (.int v1), .val (.int v2), .val (.int perm), .val (.int k0), .val (.int k1), .val (.int k2), .val (.int j), .val (.int (1 : Int32)), .val (.ref b1), .val (.ref b2), .val (.ref b3), .val (.int (0 : Int32)), .val (.int (2 : Int32)), .val (.int (1 : Int32)), .val (.int k0), .val (.int k2), .val (.int k1), .val (.int v0), .val (.int v2), .val (.int v1), .val (.int ea), .val (.int eb), .val (.int ec), .val (.ref g), .val (.int ra), .val (.int rb), .val (.int rc), .val (.ref wa)]) rfl ?_
    refine WP.aload at_402 rfl rfl (pc' := 404) rfl ?_
    refine WP.ifnullN at_404 (pc' := 407) rfl ?_
    refine WP.aload at_407 rfl rfl (pc' := 409) rfl ?_
    refine WP.alen at_409 A_wa (k := (3 : Int32)) (by simp) (pc' := 410) rfl ?_
    refine WP.iconst at_410 (z := (3 : Int32)) rfl (pc' := 411) rfl ?_
    refine WP.icmpEq at_411 (tgt := 416) (by decide) (pc' := 414) rfl (fun c411 => ?_) (fun c411 => ?_)
    ·
      obtain ⟨na, hna⟩ : ∃ z, z = (sp (cnt (cnt (cnt [0, 0, 0, 0, 0] m0) m1) m2)).getD (m0 + 1) 0 := ⟨_, rfl⟩
      obtain ⟨nb, hnb⟩ : ∃ z, z = (cnt (sp (cnt (cnt (cnt [0, 0, 0, 0, 0] m0) m1) m2)) m0).getD (m2 + 1) 0 := ⟨_, rfl⟩
      obtain ⟨nc, hnc⟩ : ∃ z, z = (cnt (cnt (sp (cnt (cnt (cnt [0, 0, 0, 0, 0] m0) m1) m2)) m0) m2).getD (m1 + 1) 0 := ⟨_, rfl⟩
      rw [← hna] at A_wa p5 p8 p11 p12
      rw [← hnb] at A_wa p6 p9 p11 p13
      rw [← hnc] at A_wa p7 p10 p12 p13
      refine WP.aload at_416 rfl rfl (pc' := 418) rfl ?_
      refine WP.iload at_418 rfl (pc' := 420) rfl ?_
      refine WP.iaload na at_420 A_wa (x := v0) (by omega) (by rw [List.getElem?_set_ne (by omega), List.getElem?_set_ne (by omega), List.getElem?_set_self (by simpa using p5)]) (pc' := 421) rfl ?_
      refine WP.iload at_421 rfl (pc' := 423) rfl ?_
      refine WP.icmpNe at_423 (tgt := 446) (by decide) (pc' := 426) rfl (fun c423 => ?_) (fun c423 => ?_)
      · exfalso; omega
      refine WP.aload at_426 rfl rfl (pc' := 428) rfl ?_
      refine WP.iload at_428 rfl (pc' := 430) rfl ?_
      refine WP.iaload nb at_430 A_wa (x := v2) (by omega) (by rw [List.getElem?_set_ne (by omega), List.getElem?_set_self (by simpa using p6)]) (pc' := 431) rfl ?_
      refine WP.iload at_431 rfl (pc' := 433) rfl ?_
      refine WP.icmpNe at_433 (tgt := 446) (by decide) (pc' := 436) rfl (fun c433 => ?_) (fun c433 => ?_)
      · exfalso; omega
      refine WP.aload at_436 rfl rfl (pc' := 438) rfl ?_
      refine WP.iload at_438 rfl (pc' := 440) rfl ?_
      refine WP.iaload nc at_440 A_wa (x := v1) (by omega) (by rw [List.getElem?_set_self (by simpa using p7)]) (pc' := 441) rfl ?_
      refine WP.iload at_441 rfl (pc' := 443) rfl ?_
      refine WP.icmpEq at_443 (tgt := 448) (by decide) (pc' := 446) rfl (fun c443 => ?_) (fun c443 => ?_)
      ·
        refine WP.aload at_448 rfl rfl (pc' := 450) rfl ?_
        refine WP.iload at_450 rfl (pc' := 452) rfl ?_
        refine WP.callV (a := g) (z := (⟨"com/example/stampwise/stampwise/history/IntGroups", "start", "(I)I"⟩ : MethodName)) (Cl := "com/example/stampwise/stampwise/history/IntGroups") (y := (⟨"com/example/stampwise/stampwise/history/IntGroups", "start", "(I)I"⟩ : MethodName)) (By := B9) (as := [(.int j)]) (rest := []) at_452 (w46 hw) (w47 hw) (w49 hw) (w48 hw) (w11 hw) (w50 hw) rfl rfl (by decide) hI.exa (sta_met hw g j mj _ _ hI hj lj pj2) pd_5 rfl rfl rfl (by decide) (Nat.le_of_ble_eq_true rfl) (by decide) (by decide) (pc' := 455) rfl ?_
        rintro _ h72 ⟨rs, rfl, hrs⟩
        show WP _ _ _ _ _ _ _ _ _ _ [(.int rs)]
        refine WP.iload at_455 rfl (pc' := 457) rfl ?_
        refine WP.iload at_457 rfl (pc' := 459) rfl ?_
        refine WP.iload at_459 rfl (pc' := 461) rfl ?_
        refine WP.iload at_461 rfl (pc' := 463) rfl ?_
        refine WP.callS (y := (⟨"com/example/stampwise/stampwise/history/IntGroupsPlacePinLaw", "below", "(IIII)I"⟩ : MethodName)) (By := B1) (as := [(.int k0), (.int k1), (.int k2), (.int j)]) (rest := [(.int rs)]) at_463 (w2 hw) (w3 hw) (w4 hw) (w5 hw) (by decide) (bel_met hw k0 k1 k2 j m0 m1 m2 mj hk0 hk1 hk2 hj) pd_0 rfl rfl rfl (by decide) (Nat.le_of_ble_eq_true rfl) (by decide) (by decide) (pc' := 466) rfl ?_
        rintro _ _ ⟨rfl, rb2, rfl, hrb2⟩
        show WP _ _ _ _ _ _ _ _ _ _ [(.int rb2), (.int rs)]
        refine WP.icmpNe at_466 (tgt := 473) (by decide) (pc' := 469) rfl (fun c466 => ?_) (fun c466 => ?_)
        ·
          refine WP.iconst at_473 (z := (0 : Int32)) rfl (pc' := 474) rfl ?_
          exact WP.retN at_474 (t := .boolean) rfl (by simp) (by decide) (by decide) (by exfalso; omega)
        refine WP.iconst at_469 (z := (1 : Int32)) rfl (pc' := 470) rfl ?_
        refine WP.goto at_470 (pc' := 474) (by decide) ?_
        exact WP.retN at_474 (t := .boolean) rfl (by simp) (by decide) (by decide) own_q1
      exfalso; omega
    exfalso; omega
  exfalso; omega
theorem law_40_2 {l : Launch} {Z : State} {a0 : Array Value} (hw : HW Z a0) {n0 : Nat} {h : Heap} (keys v0 v1 v2 perm k0 k1 k2 j : Int32) (m0 m1 m2 mj : Nat) (hk0 : k0.toInt = (m0 : Int)) (hk1 : k1.toInt = (m1 : Int)) (hk2 : k2.toInt = (m2 : Int)) (hj : j.toInt = (mj : Int)) (l0 : m0 < 4) (l1 : m1 < 4) (l2 : m2 < 4) (lj : mj < 5) : WP l B0 Z n0 (fun v h' => v = some (.int 1)) h 0 0 40 #[.val (.int keys), .val (.int v0), .val (.int v1), .val (.int v2), .val (.int perm), .val (.int k0), .val (.int k1), .val (.int k2), .val (.int j), .val (.int (2 : Int32)), .unset, .unset, .unset, .unset, .unset, .unset, .unset, .unset, .unset, .unset, .unset, .unset, .unset, .unset, .unset, .unset, .unset, .unset, .unset, .unset] [] := by
  have k32_0 : (0 : Int32).toInt = 0 := by decide
  have k32_1 : (1 : Int32).toInt = 1 := by decide
  have k32_2 : (2 : Int32).toInt = 2 := by decide
  have k32_3 : (3 : Int32).toInt = 3 := by decide
  have k32_4 : (4 : Int32).toInt = 4 := by decide
  have k32_5 : (5 : Int32).toInt = 5 := by decide
  have k32_6 : (6 : Int32).toInt = 6 := by decide
  have k32_7 : (7 : Int32).toInt = 7 := by decide
  have k32_8 : (8 : Int32).toInt = 8 := by decide
  have k32_9 : (9 : Int32).toInt = 9 := by decide
  have k32_10 : (10 : Int32).toInt = 10 := by decide
  have k32_11 : (11 : Int32).toInt = 11 := by decide
  have k32_12 : (12 : Int32).toInt = 12 := by decide
  have k32_13 : (13 : Int32).toInt = 13 := by decide
  have k32_14 : (14 : Int32).toInt = 14 := by decide
  have k32_15 : (15 : Int32).toInt = 15 := by decide
  have k32_16 : (16 : Int32).toInt = 16 := by decide
  have k32_17 : (17 : Int32).toInt = 17 := by decide
  have k32_18 : (18 : Int32).toInt = 18 := by decide
  refine WP.bipush at_40 (z := (18 : Int32)) rfl (pc' := 42) rfl ?_
  refine WP.newarr at_42 (w1 hw) (k := 18) rfl 18 (by decide) (by decide) (by decide) (by decide) (pc' := 44) rfl ?_
  intro b1 h1 eb_b1 g_b1 K2 A_b1
  replace A_b1 : Av Z h1 b1 .int [.int 0, .int 0, .int 0, .int 0, .int 0, .int 0, .int 0, .int 0, .int 0, .int 0, .int 0, .int 0, .int 0, .int 0, .int 0, .int 0, .int 0, .int 0] := A_b1
  refine WP.dup at_44 rfl (pc' := 45) rfl ?_
  refine WP.iconst at_45 (z := (0 : Int32)) rfl (pc' := 46) rfl ?_
  refine WP.iconst at_46 (z := (0 : Int32)) rfl (pc' := 47) rfl ?_
  refine WP.iastore 0 at_47 A_b1 rfl (Nat.le_of_ble_eq_true rfl) g_b1 (pc' := 48) rfl ?_
  intro h3 K4 A_n
  replace A_b1 : Av Z h3 b1 .int [(.int (0 : Int32)), (.int 0), (.int 0), (.int 0), (.int 0), (.int 0), (.int 0), (.int 0), (.int 0), (.int 0), (.int 0), (.int 0), (.int 0), (.int 0), (.int 0), (.int 0), (.int 0), (.int 0)] := A_n
  clear A_n
  refine WP.dup at_48 rfl (pc' := 49) rfl ?_
  refine WP.iconst at_49 (z := (1 : Int32)) rfl (pc' := 50) rfl ?_
  refine WP.iconst at_50 (z := (1 : Int32)) rfl (pc' := 51) rfl ?_
  refine WP.iastore 1 at_51 A_b1 rfl (Nat.le_of_ble_eq_true rfl) g_b1 (pc' := 52) rfl ?_
  intro h5 K6 A_n
  replace A_b1 : Av Z h5 b1 .int [(.int (0 : Int32)), (.int (1 : Int32)), (.int 0), (.int 0), (.int 0), (.int 0), (.int 0), (.int 0), (.int 0), (.int 0), (.int 0), (.int 0), (.int 0), (.int 0), (.int 0), (.int 0), (.int 0), (.int 0)] := A_n
  clear A_n
  refine WP.dup at_52 rfl (pc' := 53) rfl ?_
  refine WP.iconst at_53 (z := (2 : Int32)) rfl (pc' := 54) rfl ?_
  refine WP.iconst at_54 (z := (2 : Int32)) rfl (pc' := 55) rfl ?_
  refine WP.iastore 2 at_55 A_b1 rfl (Nat.le_of_ble_eq_true rfl) g_b1 (pc' := 56) rfl ?_
  intro h7 K8 A_n
  replace A_b1 : Av Z h7 b1 .int [(.int (0 : Int32)), (.int (1 : Int32)), (.int (2 : Int32)), (.int 0), (.int 0), (.int 0), (.int 0), (.int 0), (.int 0), (.int 0), (.int 0), (.int 0), (.int 0), (.int 0), (.int 0), (.int 0), (.int 0), (.int 0)] := A_n
  clear A_n
  refine WP.dup at_56 rfl (pc' := 57) rfl ?_
  refine WP.iconst at_57 (z := (3 : Int32)) rfl (pc' := 58) rfl ?_
  refine WP.iconst at_58 (z := (0 : Int32)) rfl (pc' := 59) rfl ?_
  refine WP.iastore 3 at_59 A_b1 rfl (Nat.le_of_ble_eq_true rfl) g_b1 (pc' := 60) rfl ?_
  intro h9 K10 A_n
  replace A_b1 : Av Z h9 b1 .int [(.int (0 : Int32)), (.int (1 : Int32)), (.int (2 : Int32)), (.int (0 : Int32)), (.int 0), (.int 0), (.int 0), (.int 0), (.int 0), (.int 0), (.int 0), (.int 0), (.int 0), (.int 0), (.int 0), (.int 0), (.int 0), (.int 0)] := A_n
  clear A_n
  refine WP.dup at_60 rfl (pc' := 61) rfl ?_
  refine WP.iconst at_61 (z := (4 : Int32)) rfl (pc' := 62) rfl ?_
  refine WP.iconst at_62 (z := (2 : Int32)) rfl (pc' := 63) rfl ?_
  refine WP.iastore 4 at_63 A_b1 rfl (Nat.le_of_ble_eq_true rfl) g_b1 (pc' := 64) rfl ?_
  intro h11 K12 A_n
  replace A_b1 : Av Z h11 b1 .int [(.int (0 : Int32)), (.int (1 : Int32)), (.int (2 : Int32)), (.int (0 : Int32)), (.int (2 : Int32)), (.int 0), (.int 0), (.int 0), (.int 0), (.int 0), (.int 0), (.int 0), (.int 0), (.int 0), (.int 0), (.int 0), (.int 0), (.int 0)] := A_n
  clear A_n
  refine WP.dup at_64 rfl (pc' := 65) rfl ?_
  refine WP.iconst at_65 (z := (5 : Int32)) rfl (pc' := 66) rfl ?_
  refine WP.iconst at_66 (z := (1 : Int32)) rfl (pc' := 67) rfl ?_
  refine WP.iastore 5 at_67 A_b1 rfl (Nat.le_of_ble_eq_true rfl) g_b1 (pc' := 68) rfl ?_
  intro h13 K14 A_n
  replace A_b1 : Av Z h13 b1 .int [(.int (0 : Int32)), (.int (1 : Int32)), (.int (2 : Int32)), (.int (0 : Int32)), (.int (2 : Int32)), (.int (1 : Int32)), (.int 0), (.int 0), (.int 0), (.int 0), (.int 0), (.int 0), (.int 0), (.int 0), (.int 0), (.int 0), (.int 0), (.int 0)] := A_n
  clear A_n
  refine WP.dup at_68 rfl (pc' := 69) rfl ?_
  refine WP.bipush at_69 (z := (6 : Int32)) rfl (pc' := 71) rfl ?_
  refine WP.iconst at_71 (z := (1 : Int32)) rfl (pc' := 72) rfl ?_
  refine WP.iastore 6 at_72 A_b1 rfl (Nat.le_of_ble_eq_true rfl) g_b1 (pc' := 73) rfl ?_
  intro h15 K16 A_n
  replace A_b1 : Av Z h15 b1 .int [(.int (0 : Int32)), (.int (1 : Int32)), (.int (2 : Int32)), (.int (0 : Int32)), (.int (2 : Int32)), (.int (1 : Int32)), (.int (1 : Int32)), (.int 0), (.int 0), (.int 0), (.int 0), (.int 0), (.int 0), (.int 0), (.int 0), (.int 0), (.int 0), (.int 0)] := A_n
  clear A_n
  refine WP.dup at_73 rfl (pc' := 74) rfl ?_
  refine WP.bipush at_74 (z := (7 : Int32)) rfl (pc' := 76) rfl ?_
  refine WP.iconst at_76 (z := (0 : Int32)) rfl (pc' := 77) rfl ?_
  refine WP.iastore 7 at_77 A_b1 rfl (Nat.le_of_ble_eq_true rfl) g_b1 (pc' := 78) rfl ?_
  intro h17 K18 A_n
  replace A_b1 : Av Z h17 b1 .int [(.int (0 : Int32)), (.int (1 : Int32)), (.int (2 : Int32)), (.int (0 : Int32)), (.int (2 : Int32)), (.int (1 : Int32)), (.int (1 : Int32)), (.int (0 : Int32)), (.int 0), (.int 0), (.int 0), (.int 0), (.int 0), (.int 0), (.int 0), (.int 0), (.int 0), (.int 0)] := A_n
  clear A_n
  refine WP.dup at_78 rfl (pc' := 79) rfl ?_
  refine WP.bipush at_79 (z := (8 : Int32)) rfl (pc' := 81) rfl ?_
  refine WP.iconst at_81 (z := (2 : Int32)) rfl (pc' := 82) rfl ?_
  refine WP.iastore 8 at_82 A_b1 rfl (Nat.le_of_ble_eq_true rfl) g_b1 (pc' := 83) rfl ?_
  intro h19 K20 A_n
  replace A_b1 : Av Z h19 b1 .int [(.int (0 : Int32)), (.int (1 : Int32)), (.int (2 : Int32)), (.int (0 : Int32)), (.int (2 : Int32)), (.int (1 : Int32)), (.int (1 : Int32)), (.int (0 : Int32)), (.int (2 : Int32)), (.int 0), (.int 0), (.int 0), (.int 0), (.int 0), (.int 0), (.int 0), (.int 0), (.int 0)] := A_n
  clear A_n
  refine WP.dup at_83 rfl (pc' := 84) rfl ?_
  refine WP.bipush at_84 (z := (9 : Int32)) rfl (pc' := 86) rfl ?_
  refine WP.iconst at_86 (z := (1 : Int32)) rfl (pc' := 87) rfl ?_
  refine WP.iastore 9 at_87 A_b1 rfl (Nat.le_of_ble_eq_true rfl) g_b1 (pc' := 88) rfl ?_
  intro h21 K22 A_n
  replace A_b1 : Av Z h21 b1 .int [(.int (0 : Int32)), (.int (1 : Int32)), (.int (2 : Int32)), (.int (0 : Int32)), (.int (2 : Int32)), (.int (1 : Int32)), (.int (1 : Int32)), (.int (0 : Int32)), (.int (2 : Int32)), (.int (1 : Int32)), (.int 0), (.int 0), (.int 0), (.int 0), (.int 0), (.int 0), (.int 0), (.int 0)] := A_n
  clear A_n
  refine WP.dup at_88 rfl (pc' := 89) rfl ?_
  refine WP.bipush at_89 (z := (10 : Int32)) rfl (pc' := 91) rfl ?_
  refine WP.iconst at_91 (z := (2 : Int32)) rfl (pc' := 92) rfl ?_
  refine WP.iastore 10 at_92 A_b1 rfl (Nat.le_of_ble_eq_true rfl) g_b1 (pc' := 93) rfl ?_
  intro h23 K24 A_n
  replace A_b1 : Av Z h23 b1 .int [(.int (0 : Int32)), (.int (1 : Int32)), (.int (2 : Int32)), (.int (0 : Int32)), (.int (2 : Int32)), (.int (1 : Int32)), (.int (1 : Int32)), (.int (0 : Int32)), (.int (2 : Int32)), (.int (1 : Int32)), (.int (2 : Int32)), (.int 0), (.int 0), (.int 0), (.int 0), (.int 0), (.int 0), (.int 0)] := A_n
  clear A_n
  refine WP.dup at_93 rfl (pc' := 94) rfl ?_
  refine WP.bipush at_94 (z := (11 : Int32)) rfl (pc' := 96) rfl ?_
  refine WP.iconst at_96 (z := (0 : Int32)) rfl (pc' := 97) rfl ?_
  refine WP.iastore 11 at_97 A_b1 rfl (Nat.le_of_ble_eq_true rfl) g_b1 (pc' := 98) rfl ?_
  intro h25 K26 A_n
  replace A_b1 : Av Z h25 b1 .int [(.int (0 : Int32)), (.int (1 : Int32)), (.int (2 : Int32)), (.int (0 : Int32)), (.int (2 : Int32)), (.int (1 : Int32)), (.int (1 : Int32)), (.int (0 : Int32)), (.int (2 : Int32)), (.int (1 : Int32)), (.int (2 : Int32)), (.int (0 : Int32)), (.int 0), (.int 0), (.int 0), (.int 0), (.int 0), (.int 0)] := A_n
  clear A_n
  refine WP.dup at_98 rfl (pc' := 99) rfl ?_
  refine WP.bipush at_99 (z := (12 : Int32)) rfl (pc' := 101) rfl ?_
  refine WP.iconst at_101 (z := (2 : Int32)) rfl (pc' := 102) rfl ?_
  refine WP.iastore 12 at_102 A_b1 rfl (Nat.le_of_ble_eq_true rfl) g_b1 (pc' := 103) rfl ?_
  intro h27 K28 A_n
  replace A_b1 : Av Z h27 b1 .int [(.int (0 : Int32)), (.int (1 : Int32)), (.int (2 : Int32)), (.int (0 : Int32)), (.int (2 : Int32)), (.int (1 : Int32)), (.int (1 : Int32)), (.int (0 : Int32)), (.int (2 : Int32)), (.int (1 : Int32)), (.int (2 : Int32)), (.int (0 : Int32)), (.int (2 : Int32)), (.int 0), (.int 0), (.int 0), (.int 0), (.int 0)] := A_n
  clear A_n
  refine WP.dup at_103 rfl (pc' := 104) rfl ?_
  refine WP.bipush at_104 (z := (13 : Int32)) rfl (pc' := 106) rfl ?_
  refine WP.iconst at_106 (z := (0 : Int32)) rfl (pc' := 107) rfl ?_
  refine WP.iastore 13 at_107 A_b1 rfl (Nat.le_of_ble_eq_true rfl) g_b1 (pc' := 108) rfl ?_
  intro h29 K30 A_n
  replace A_b1 : Av Z h29 b1 .int [(.int (0 : Int32)), (.int (1 : Int32)), (.int (2 : Int32)), (.int (0 : Int32)), (.int (2 : Int32)), (.int (1 : Int32)), (.int (1 : Int32)), (.int (0 : Int32)), (.int (2 : Int32)), (.int (1 : Int32)), (.int (2 : Int32)), (.int (0 : Int32)), (.int (2 : Int32)), (.int (0 : Int32)), (.int 0), (.int 0), (.int 0), (.int 0)] := A_n
  clear A_n
  refine WP.dup at_108 rfl (pc' := 109) rfl ?_
  refine WP.bipush at_109 (z := (14 : Int32)) rfl (pc' := 111) rfl ?_
  refine WP.iconst at_111 (z := (1 : Int32)) rfl (pc' := 112) rfl ?_
  refine WP.iastore 14 at_112 A_b1 rfl (Nat.le_of_ble_eq_true rfl) g_b1 (pc' := 113) rfl ?_
  intro h31 K32 A_n
  replace A_b1 : Av Z h31 b1 .int [(.int (0 : Int32)), (.int (1 : Int32)), (.int (2 : Int32)), (.int (0 : Int32)), (.int (2 : Int32)), (.int (1 : Int32)), (.int (1 : Int32)), (.int (0 : Int32)), (.int (2 : Int32)), (.int (1 : Int32)), (.int (2 : Int32)), (.int (0 : Int32)), (.int (2 : Int32)), (.int (0 : Int32)), (.int (1 : Int32)), (.int 0), (.int 0), (.int 0)] := A_n
  clear A_n
  refine WP.dup at_113 rfl (pc' := 114) rfl ?_
  refine WP.bipush at_114 (z := (15 : Int32)) rfl (pc' := 116) rfl ?_
  refine WP.iconst at_116 (z := (2 : Int32)) rfl (pc' := 117) rfl ?_
  refine WP.iastore 15 at_117 A_b1 rfl (Nat.le_of_ble_eq_true rfl) g_b1 (pc' := 118) rfl ?_
  intro h33 K34 A_n
  replace A_b1 : Av Z h33 b1 .int [(.int (0 : Int32)), (.int (1 : Int32)), (.int (2 : Int32)), (.int (0 : Int32)), (.int (2 : Int32)), (.int (1 : Int32)), (.int (1 : Int32)), (.int (0 : Int32)), (.int (2 : Int32)), (.int (1 : Int32)), (.int (2 : Int32)), (.int (0 : Int32)), (.int (2 : Int32)), (.int (0 : Int32)), (.int (1 : Int32)), (.int (2 : Int32)), (.int 0), (.int 0)] := A_n
  clear A_n
  refine WP.dup at_118 rfl (pc' := 119) rfl ?_
  refine WP.bipush at_119 (z := (16 : Int32)) rfl (pc' := 121) rfl ?_
  refine WP.iconst at_121 (z := (1 : Int32)) rfl (pc' := 122) rfl ?_
  refine WP.iastore 16 at_122 A_b1 rfl (Nat.le_of_ble_eq_true rfl) g_b1 (pc' := 123) rfl ?_
  intro h35 K36 A_n
  replace A_b1 : Av Z h35 b1 .int [(.int (0 : Int32)), (.int (1 : Int32)), (.int (2 : Int32)), (.int (0 : Int32)), (.int (2 : Int32)), (.int (1 : Int32)), (.int (1 : Int32)), (.int (0 : Int32)), (.int (2 : Int32)), (.int (1 : Int32)), (.int (2 : Int32)), (.int (0 : Int32)), (.int (2 : Int32)), (.int (0 : Int32)), (.int (1 : Int32)), (.int (2 : Int32)), (.int (1 : Int32)), (.int 0)] := A_n
  clear A_n
  refine WP.dup at_123 rfl (pc' := 124) rfl ?_
  refine WP.bipush at_124 (z := (17 : Int32)) rfl (pc' := 126) rfl ?_
  refine WP.iconst at_126 (z := (0 : Int32)) rfl (pc' := 127) rfl ?_
  refine WP.iastore 17 at_127 A_b1 rfl (Nat.le_of_ble_eq_true rfl) g_b1 (pc' := 128) rfl ?_
  intro h37 K38 A_n
  replace A_b1 : Av Z h37 b1 .int [(.int (0 : Int32)), (.int (1 : Int32)), (.int (2 : Int32)), (.int (0 : Int32)), (.int (2 : Int32)), (.int (1 : Int32)), (.int (1 : Int32)), (.int (0 : Int32)), (.int (2 : Int32)), (.int (1 : Int32)), (.int (2 : Int32)), (.int (0 : Int32)), (.int (2 : Int32)), (.int (0 : Int32)), (.int (1 : Int32)), (.int (2 : Int32)), (.int (1 : Int32)), (.int (0 : Int32))] := A_n
  clear A_n
  refine WP.astore at_128 (pc' := 130) rfl rfl (ls' := #[.val (.int keys), .val (.int v0), .val (.int v1), .val (.int v2), .val (.int perm), .val (.int k0), .val (.int k1), .val (.int k2), .val (.int j), .val (.int (2 : Int32)), .val (.ref b1), .unset, .unset, .unset, .unset, .unset, .unset, .unset, .unset, .unset, .unset, .unset, .unset, .unset, .unset, .unset, .unset, .unset, .unset, .unset]) rfl ?_
  refine WP.iconst at_130 (z := (3 : Int32)) rfl (pc' := 131) rfl ?_
  refine WP.newarr at_131 (w1 hw) (k := 3) rfl 3 (by decide) (by decide) (by decide) (by decide) (pc' := 133) rfl ?_
  intro b2 h39 eb_b2 g_b2 K40 A_b2
  replace A_b2 : Av Z h39 b2 .int [.int 0, .int 0, .int 0] := A_b2
  have lt_b1_b2 : b1 < b2 := by rw [eb_b2]; exact A_b1.lt
  replace A_b1 := A_b1.keep K40 own_nil
  refine WP.dup at_133 rfl (pc' := 134) rfl ?_
  refine WP.iconst at_134 (z := (0 : Int32)) rfl (pc' := 135) rfl ?_
  refine WP.iload at_135 rfl (pc' := 137) rfl ?_
  refine WP.iastore 0 at_137 A_b2 rfl (Nat.le_of_ble_eq_true rfl) g_b2 (pc' := 138) rfl ?_
  intro h41 K42 A_n
  replace A_b1 := A_b1.keep K42 (own_cons (by first | assumption | exact Ne.symm (by assumption) | exact Nat.ne_of_lt (by assumption) | exact Nat.ne_of_gt (by assumption)) own_nil)
  replace A_b2 : Av Z h41 b2 .int [(.int k0), (.int 0), (.int 0)] := A_n
  clear A_n
  refine WP.dup at_138 rfl (pc' := 139) rfl ?_
  refine WP.iconst at_139 (z := (1 : Int32)) rfl (pc' := 140) rfl ?_
  refine WP.iload at_140 rfl (pc' := 142) rfl ?_
  refine WP.iastore 1 at_142 A_b2 rfl (Nat.le_of_ble_eq_true rfl) g_b2 (pc' := 143) rfl ?_
  intro h43 K44 A_n
  replace A_b1 := A_b1.keep K44 (own_cons (by first | assumption | exact Ne.symm (by assumption) | exact Nat.ne_of_lt (by assumption) | exact Nat.ne_of_gt (by assumption)) own_nil)
  replace A_b2 : Av Z h43 b2 .int [(.int k0), (.int k1), (.int 0)] := A_n
  clear A_n
  refine WP.dup at_143 rfl (pc' := 144) rfl ?_
  refine WP.iconst at_144 (z := (2 : Int32)) rfl (pc' := 145) rfl ?_
  refine WP.iload at_145 rfl (pc' := 147) rfl ?_
  refine WP.iastore 2 at_147 A_b2 rfl (Nat.le_of_ble_eq_true rfl) g_b2 (pc' := 148) rfl ?_
  intro h45 K46 A_n
  replace A_b1 := A_b1.keep K46 (own_cons (by first | assumption | exact Ne.symm (by assumption) | exact Nat.ne_of_lt (by assumption) | exact Nat.ne_of_gt (by assumption)) own_nil)
  replace A_b2 : Av Z h45 b2 .int [(.int k0), (.int k1), (.int k2)] := A_n
  clear A_n
  refine WP.astore at_148 (pc' := 150) rfl rfl (ls' := #[.val (.int keys), .val (.int v0), .val (.int v1), .val (.int v2), .val (.int perm), .val (.int k0), .val (.int k1), .val (.int k2), .val (.int j), .val (.int (2 : Int32)), .val (.ref b1), .val (.ref b2), .unset, .unset, .unset, .unset, .unset, .unset, .unset, .unset, .unset, .unset, .unset, .unset, .unset, .unset, .unset, .unset, .unset, .unset]) rfl ?_
  refine WP.iconst at_150 (z := (3 : Int32)) rfl (pc' := 151) rfl ?_
  refine WP.newarr at_151 (w1 hw) (k := 3) rfl 3 (by decide) (by decide) (by decide) (by decide) (pc' := 153) rfl ?_
  intro b3 h47 eb_b3 g_b3 K48 A_b3
  replace A_b3 : Av Z h47 b3 .int [.int 0, .int 0, .int 0] := A_b3
  have lt_b1_b3 : b1 < b3 := by rw [eb_b3]; exact A_b1.lt
  have lt_b2_b3 : b2 < b3 := by rw [eb_b3]; exact A_b2.lt
  replace A_b1 := A_b1.keep K48 own_nil
  replace A_b2 := A_b2.keep K48 own_nil
  refine WP.dup at_153 rfl (pc' := 154) rfl ?_
  refine WP.iconst at_154 (z := (0 : Int32)) rfl (pc' := 155) rfl ?_
  refine WP.iloadN at_155 rfl (pc' := 156) rfl ?_
  refine WP.iastore 0 at_156 A_b3 rfl (Nat.le_of_ble_eq_true rfl) g_b3 (pc' := 157) rfl ?_
  intro h49 K50 A_n
  replace A_b1 := A_b1.keep K50 (own_cons (by first | assumption | exact Ne.symm (by assumption) | exact Nat.ne_of_lt (by assumption) | exact Nat.ne_of_gt (by assumption)) own_nil)
  replace A_b2 := A_b2.keep K50 (own_cons (by first | assumption | exact Ne.symm (by assumption) | exact Nat.ne_of_lt (by assumption) | exact Nat.ne_of_gt (by assumption)) own_nil)
  replace A_b3 : Av Z h49 b3 .int [(.int v0), (.int 0), (.int 0)] := A_n
  clear A_n
  refine WP.dup at_157 rfl (pc' := 158) rfl ?_
  refine WP.iconst at_158 (z := (1 : Int32)) rfl (pc' := 159) rfl ?_
  refine WP.iloadN at_159 rfl (pc' := 160) rfl ?_
  refine WP.iastore 1 at_160 A_b3 rfl (Nat.le_of_ble_eq_true rfl) g_b3 (pc' := 161) rfl ?_
  intro h51 K52 A_n
  replace A_b1 := A_b1.keep K52 (own_cons (by first | assumption | exact Ne.symm (by assumption) | exact Nat.ne_of_lt (by assumption) | exact Nat.ne_of_gt (by assumption)) own_nil)
  replace A_b2 := A_b2.keep K52 (own_cons (by first | assumption | exact Ne.symm (by assumption) | exact Nat.ne_of_lt (by assumption) | exact Nat.ne_of_gt (by assumption)) own_nil)
  replace A_b3 : Av Z h51 b3 .int [(.int v0), (.int v1), (.int 0)] := A_n
  clear A_n
  refine WP.dup at_161 rfl (pc' := 162) rfl ?_
  refine WP.iconst at_162 (z := (2 : Int32)) rfl (pc' := 163) rfl ?_
  refine WP.iloadN at_163 rfl (pc' := 164) rfl ?_
  refine WP.iastore 2 at_164 A_b3 rfl (Nat.le_of_ble_eq_true rfl) g_b3 (pc' := 165) rfl ?_
  intro h53 K54 A_n
  replace A_b1 := A_b1.keep K54 (own_cons (by first | assumption | exact Ne.symm (by assumption) | exact Nat.ne_of_lt (by assumption) | exact Nat.ne_of_gt (by assumption)) own_nil)
  replace A_b2 := A_b2.keep K54 (own_cons (by first | assumption | exact Ne.symm (by assumption) | exact Nat.ne_of_lt (by assumption) | exact Nat.ne_of_gt (by assumption)) own_nil)
  replace A_b3 : Av Z h53 b3 .int [(.int v0), (.int v1), (.int v2)] := A_n
  clear A_n
  refine WP.astore at_165 (pc' := 167) rfl rfl (ls' := #[.val (.int keys), .val (.int v0), .val (.int v1), .val (.int v2), .val (.int perm), .val (.int k0), .val (.int k1), .val (.int k2), .val (.int j), .val (.int (2 : Int32)), .val (.ref b1), .val (.ref b2), .val (.ref b3), .unset, .unset, .unset, .unset, .unset, .unset, .unset, .unset, .unset, .unset, .unset, .unset, .unset, .unset, .unset, .unset, .unset]) rfl ?_
  refine WP.aload at_167 rfl rfl (pc' := 169) rfl ?_
  refine WP.iconst at_169 (z := (3 : Int32)) rfl (pc' := 170) rfl ?_
  refine WP.iload at_170 rfl (pc' := 172) rfl ?_
  refine WP.imul at_172 (pc' := 173) rfl ?_
  rw [show (((3 : Int32) * (2 : Int32)) : Int32) = (6 : Int32) from by decide]
  refine WP.iaload 6 at_173 A_b1 (x := (1 : Int32)) rfl rfl (pc' := 174) rfl ?_
  refine WP.istore at_174 (pc' := 176) rfl (ls' := #[.val (.int keys), .val (.int v0), .val (.int v1), .val (.int v2), .val (.int perm), .val (.int k0), .val (.int k1), .val (.int k2), .val (.int j), .val (.int (2 : Int32)), .val (.ref b1), .val (.ref b2), .val (.ref b3), .val (.int (1 : Int32)), .unset, .unset, .unset, .unset, .unset, .unset, .unset, .unset, .unset, .unset, .unset, .unset, .unset, .unset, .unset, .unset]) rfl ?_
  refine WP.aload at_176 rfl rfl (pc' := 178) rfl ?_
  refine WP.iconst at_178 (z := (3 : Int32)) rfl (pc' := 179) rfl ?_
  refine WP.iload at_179 rfl (pc' := 181) rfl ?_
  refine WP.imul at_181 (pc' := 182) rfl ?_
  rw [show (((3 : Int32) * (2 : Int32)) : Int32) = (6 : Int32) from by decide]
  refine WP.iconst at_182 (z := (1 : Int32)) rfl (pc' := 183) rfl ?_
  refine WP.iadd at_183 (pc' := 184) rfl ?_
  rw [show (((6 : Int32) + (1 : Int32)) : Int32) = (7 : Int32) from by decide]
  refine WP.iaload 7 at_184 A_b1 (x := (0 : Int32)) rfl rfl (pc' := 185) rfl ?_
  refine WP.istore at_185 (pc' := 187) rfl (ls' := #[.val (.int keys), .val (.int v0), .val (.int v1), .val (.int v2), .val (.int perm), .val (.int k0), .val (.int k1), .val (.int k2), .val (.int j), .val (.int (2 : Int32)), .val (.ref b1), .val (.ref b2), .val (.ref b3), .val (.int (1 : Int32)), .val (.int (0 : Int32)), .unset, .unset, .unset, .unset, .unset, .unset, .unset, .unset, .unset, .unset, .unset, .unset, .unset, .unset, .unset]) rfl ?_
  refine WP.aload at_187 rfl rfl (pc' := 189) rfl ?_
  refine WP.iconst at_189 (z := (3 : Int32)) rfl (pc' := 190) rfl ?_
  refine WP.iload at_190 rfl (pc' := 192) rfl ?_
  refine WP.imul at_192 (pc' := 193) rfl ?_
  rw [show (((3 : Int32) * (2 : Int32)) : Int32) = (6 : Int32) from by decide]
  refine WP.iconst at_193 (z := (2 : Int32)) rfl (pc' := 194) rfl ?_
  refine WP.iadd at_194 (pc' := 195) rfl ?_
  rw [show (((6 : Int32) + (2 : Int32)) : Int32) = (8 : Int32) from by decide]
  refine WP.iaload 8 at_195 A_b1 (x := (2 : Int32)) rfl rfl (pc' := 196) rfl ?_
  refine WP.istore at_196 (pc' := 198) rfl (ls' := #[.val (.int keys), .val (.int v0), .val (.int v1), .val (.int v2), .val (.int perm), .val (.int k0), .val (.int k1), .val (.int k2), .val (.int j), .val (.int (2 : Int32)), .val (.ref b1), .val (.ref b2), .val (.ref b3), .val (.int (1 : Int32)), .val (.int (0 : Int32)), .val (.int (2 : Int32)), .unset, .unset, .unset, .unset, .unset, .unset, .unset, .unset, .unset, .unset, .unset, .unset, .unset, .unset]) rfl ?_
  refine WP.aload at_198 rfl rfl (pc' := 200) rfl ?_
  refine WP.iload at_200 rfl (pc' := 202) rfl ?_
  refine WP.iaload 1 at_202 A_b2 (x := k1) rfl rfl (pc' := 203) rfl ?_
  refine WP.istore at_203 (pc' := 205) rfl (ls' := #[.val (.int keys), .val (.int v0), .val (.int v1), .val (.int v2), .val (.int perm), .val (.int k0), .val (.int k1), .val (.int k2), .val (.int j), .val (.int (2 : Int32)), .val (.ref b1), .val (.ref b2), .val (.ref b3), .val (.int (1 : Int32)), .val (.int (0 : Int32)), .val (.int (2 : Int32)), .val (.int k1), .unset, .unset, .unset, .unset, .unset, .unset, .unset, .unset, .unset, .unset, .unset, .unset, .unset]) rfl ?_
  refine WP.aload at_205 rfl rfl (pc' := 207) rfl ?_
  refine WP.iload at_207 rfl (pc' := 209) rfl ?_
  refine WP.iaload 0 at_209 A_b2 (x := k0) rfl rfl (pc' := 210) rfl ?_
  refine WP.istore at_210 (pc' := 212) rfl (ls' := #[.val (.int keys), .val (.int v0), .val (.int v1), .val (.int v2), .val (.int perm), .val (.int k0), .val (.int k1), .val (.int k2), .val (.int j), .val (.int (2 : Int32)), .val (.ref b1), .val (.ref b2), .val (.ref b3), .val (.int (1 : Int32)), .val (.int (0 : Int32)), .val (.int (2 : Int32)), .val (.int k1), .val (.int k0), .unset, .unset, .unset, .unset, .unset, .unset, .unset, .unset, .unset, .unset, .unset, .unset]) rfl ?_
  refine WP.aload at_212 rfl rfl (pc' := 214) rfl ?_
  refine WP.iload at_214 rfl (pc' := 216) rfl ?_
  refine WP.iaload 2 at_216 A_b2 (x := k2) rfl rfl (pc' := 217) rfl ?_
  refine WP.istore at_217 (pc' := 219) rfl (ls' := #[.val (.int keys), .val (.int v0), .val (.int v1), .val (.int v2), .val (.int perm), .val (.int k0), .val (.int k1), .val (.int k2), .val (.int j), .val (.int (2 : Int32)), .val (.ref b1), .val (.ref b2), .val (.ref b3), .val (.int (1 : Int32)), .val (.int (0 : Int32)), .val (.int (2 : Int32)), .val (.int k1), .val (.int k0), .val (.int k2), .unset, .unset, .unset, .unset, .unset, .unset, .unset, .unset, .unset, .unset, .unset]) rfl ?_
  refine WP.aload at_219 rfl rfl (pc' := 221) rfl ?_
  refine WP.iload at_221 rfl (pc' := 223) rfl ?_
  refine WP.iaload 1 at_223 A_b3 (x := v1) rfl rfl (pc' := 224) rfl ?_
  refine WP.istore at_224 (pc' := 226) rfl (ls' := #[.val (.int keys), .val (.int v0), .val (.int v1), .val (.int v2), .val (.int perm), .val (.int k0), .val (.int k1), .val (.int k2), .val (.int j), .val (.int (2 : Int32)), .val (.ref b1), .val (.ref b2), .val (.ref b3), .val (.int (1 : Int32)), .val (.int (0 : Int32)), .val (.int (2 : Int32)), .val (.int k1), .val (.int k0), .val (.int k2), .val (.int v1), .unset, .unset, .unset, .unset, .unset, .unset, .unset, .unset, .unset, .unset]) rfl ?_
  refine WP.aload at_226 rfl rfl (pc' := 228) rfl ?_
  refine WP.iload at_228 rfl (pc' := 230) rfl ?_
  refine WP.iaload 0 at_230 A_b3 (x := v0) rfl rfl (pc' := 231) rfl ?_
  refine WP.istore at_231 (pc' := 233) rfl (ls' := #[.val (.int keys), .val (.int v0), .val (.int v1), .val (.int v2), .val (.int perm), .val (.int k0), .val (.int k1), .val (.int k2), .val (.int j), .val (.int (2 : Int32)), .val (.ref b1), .val (.ref b2), .val (.ref b3), .val (.int (1 : Int32)), .val (.int (0 : Int32)), .val (.int (2 : Int32)), .val (.int k1), .val (.int k0), .val (.int k2), .val (.int v1), .val (.int v0), .unset, .unset, .unset, .unset, .unset, .unset, .unset, .unset, .unset]) rfl ?_
  refine WP.aload at_233 rfl rfl (pc' := 235) rfl ?_
  refine WP.iload at_235 rfl (pc' := 237) rfl ?_
  refine WP.iaload 2 at_237 A_b3 (x := v2) rfl rfl (pc' := 238) rfl ?_
  refine WP.istore at_238 (pc' := 240) rfl (ls' := #[.val (.int keys), .val (.int v0), .val (.int v1), .val (.int v2), .val (.int perm), .val (.int k0), .val (.int k1), .val (.int k2), .val (.int j), .val (.int (2 : Int32)), .val (.ref b1), .val (.ref b2), .val (.ref b3), .val (.int (1 : Int32)), .val (.int (0 : Int32)), .val (.int (2 : Int32)), .val (.int k1), .val (.int k0), .val (.int k2), .val (.int v1), .val (.int v0), .val (.int v2), .unset, .unset, .unset, .unset, .unset, .unset, .unset, .unset]) rfl ?_
  refine WP.iload at_240 rfl (pc' := 242) rfl ?_
  refine WP.iload at_242 rfl (pc' := 244) rfl ?_
  refine WP.iload at_244 rfl (pc' := 246) rfl ?_
  refine WP.iload at_246 rfl (pc' := 248) rfl ?_
  refine WP.callS (y := (⟨"com/example/stampwise/stampwise/history/IntGroupsPlacePinLaw", "below", "(IIII)I"⟩ : MethodName)) (By := B1) (as := [(.int k0), (.int k1), (.int k2), (.int k1)]) (rest := []) at_248 (w2 hw) (w3 hw) (w4 hw) (w5 hw) (by decide) (bel_met hw k0 k1 k2 k1 m0 m1 m2 m1 hk0 hk1 hk2 hk1) pd_0 rfl rfl rfl (by decide) (Nat.le_of_ble_eq_true rfl) (by decide) (by decide) (pc' := 251) rfl ?_
  rintro _ _ ⟨rfl, ea, rfl, hea⟩
  show WP _ _ _ _ _ _ _ _ _ _ [(.int ea)]
  refine WP.istore at_251 (pc' := 253) rfl (ls' := #[.val (.int keys), .val (.int v0), .val (.int v1), .val (.int v2), .val (.int perm), .val (.int k0), .val (.int k1), .val (.int k2), .val (.int j), .val (.int (2 : Int32)), .val (.ref b1), .val (.ref b2), .val (.ref b3), .val (.int (1 : Int32)), .val (.int (0 : Int32)), .val (.int (2 : Int32)), .val (.int k1), .val (.int k0), .val (.int k2), .val (.int v1), .val (.int v0), .val (.int v2), .val (.int ea), .unset, .unset, .unset, .unset, .unset, .unset, .unset]) rfl ?_
  refine WP.iload at_253 rfl (pc' := 255) rfl ?_
  refine WP.iload at_255 rfl (pc' := 257) rfl ?_
  refine WP.iload at_257 rfl (pc' := 259) rfl ?_
  refine WP.iload at_259 rfl (pc' := 261) rfl ?_
  refine WP.callS (y := (⟨"com/example/stampwise/stampwise/history/IntGroupsPlacePinLaw", "below", "(IIII)I"⟩ : MethodName)) (By := B1) (as := [(.int k0), (.int k1), (.int k2), (.int k0)]) (rest := []) at_261 (w2 hw) (w3 hw) (w4 hw) (w5 hw) (by decide) (bel_met hw k0 k1 k2 k0 m0 m1 m2 m0 hk0 hk1 hk2 hk0) pd_0 rfl rfl rfl (by decide) (Nat.le_of_ble_eq_true rfl) (by decide) (by decide) (pc' := 264) rfl ?_
  rintro _ _ ⟨rfl, r1, rfl, hr1⟩
  show WP _ _ _ _ _ _ _ _ _ _ [(.int r1)]
  refine WP.iload at_264 rfl (pc' := 266) rfl ?_
  refine WP.iload at_266 rfl (pc' := 268) rfl ?_
  refine WP.callS (y := (⟨"com/example/stampwise/stampwise/history/IntGroupsPlacePinLaw", "same", "(II)I"⟩ : MethodName)) (By := B2) (as := [(.int k1), (.int k0)]) (rest := [(.int r1)]) at_268 (w6 hw) (w7 hw) (w4 hw) (w8 hw) (by decide) (sam_met hw k1 k0 m1 m0 hk1 hk0) pd_1 rfl rfl rfl (by decide) (Nat.le_of_ble_eq_true rfl) (by decide) (by decide) (pc' := 271) rfl ?_
  rintro _ _ ⟨rfl, r2, rfl, hr2⟩
  show WP _ _ _ _ _ _ _ _ _ _ [(.int r2), (.int r1)]
  refine WP.iadd at_271 (pc' := 272) rfl ?_
  obtain ⟨eb, e_eb⟩ : ∃ z, z = (r1 + r2) := ⟨_, rfl⟩
  rw [← e_eb]
  refine WP.istore at_272 (pc' := 274) rfl (ls' := #[.val (.int keys), .val (.int v0), .val (.int v1), .val (.int v2), .val (.int perm), .val (.int k0), .val (.int k1), .val (.int k2), .val (.int j), .val (.int (2 : Int32)), .val (.ref b1), .val (.ref b2), .val (.ref b3), .val (.int (1 : Int32)), .val (.int (0 : Int32)), .val (.int (2 : Int32)), .val (.int k1), .val (.int k0), .val (.int k2), .val (.int v1), .val (.int v0), .val (.int v2), .val (.int ea), .val (.int eb), .unset, .unset, .unset, .unset, .unset, .unset]) rfl ?_
  refine WP.iload at_274 rfl (pc' := 276) rfl ?_
  refine WP.iload at_276 rfl (pc' := 278) rfl ?_
  refine WP.iload at_278 rfl (pc' := 280) rfl ?_
  refine WP.iload at_280 rfl (pc' := 282) rfl ?_
  refine WP.callS (y := (⟨"com/example/stampwise/stampwise/history/IntGroupsPlacePinLaw", "below", "(IIII)I"⟩ : MethodName)) (By := B1) (as := [(.int k0), (.int k1), (.int k2), (.int k2)]) (rest := []) at_282 (w2 hw) (w3 hw) (w4 hw) (w5 hw) (by decide) (bel_met hw k0 k1 k2 k2 m0 m1 m2 m2 hk0 hk1 hk2 hk2) pd_0 rfl rfl rfl (by decide) (Nat.le_of_ble_eq_true rfl) (by decide) (by decide) (pc' := 285) rfl ?_
  rintro _ _ ⟨rfl, r3, rfl, hr3⟩
  show WP _ _ _ _ _ _ _ _ _ _ [(.int r3)]
  refine WP.iload at_285 rfl (pc' := 287) rfl ?_
  refine WP.iload at_287 rfl (pc' := 289) rfl ?_
  refine WP.callS (y := (⟨"com/example/stampwise/stampwise/history/IntGroupsPlacePinLaw", "same", "(II)I"⟩ : MethodName)) (By := B2) (as := [(.int k1), (.int k2)]) (rest := [(.int r3)]) at_289 (w6 hw) (w7 hw) (w4 hw) (w8 hw) (by decide) (sam_met hw k1 k2 m1 m2 hk1 hk2) pd_1 rfl rfl rfl (by decide) (Nat.le_of_ble_eq_true rfl) (by decide) (by decide) (pc' := 292) rfl ?_
  rintro _ _ ⟨rfl, r4, rfl, hr4⟩
  show WP _ _ _ _ _ _ _ _ _ _ [(.int r4), (.int r3)]
  refine WP.iadd at_292 (pc' := 293) rfl ?_
  refine WP.iload at_293 rfl (pc' := 295) rfl ?_
  refine WP.iload at_295 rfl (pc' := 297) rfl ?_
  refine WP.callS (y := (⟨"com/example/stampwise/stampwise/history/IntGroupsPlacePinLaw", "same", "(II)I"⟩ : MethodName)) (By := B2) (as := [(.int k0), (.int k2)]) (rest := [(.int (r3 + r4))]) at_297 (w6 hw) (w7 hw) (w4 hw) (w8 hw) (by decide) (sam_met hw k0 k2 m0 m2 hk0 hk2) pd_1 rfl rfl rfl (by decide) (Nat.le_of_ble_eq_true rfl) (by decide) (by decide) (pc' := 300) rfl ?_
  rintro _ _ ⟨rfl, r5, rfl, hr5⟩
  show WP _ _ _ _ _ _ _ _ _ _ [(.int r5), (.int (r3 + r4))]
  refine WP.iadd at_300 (pc' := 301) rfl ?_
  obtain ⟨ec, e_ec⟩ : ∃ z, z = ((r3 + r4) + r5) := ⟨_, rfl⟩
  rw [← e_ec]
  refine WP.istore at_301 (pc' := 303) rfl (ls' := #[.val (.int keys), .val (.int v0), .val (.int v1), .val (.int v2), .val (.int perm), .val (.int k0), .val (.int k1), .val (.int k2), .val (.int j), .val (.int (2 : Int32)), .val (.ref b1), .val (.ref b2), .val (.ref b3), .val (.int (1 : Int32)), .val (.int (0 : Int32)), .val (.int (2 : Int32)), .val (.int k1), .val (.int k0), .val (.int k2), .val (.int v1), .val (.int v0), .val (.int v2), .val (.int ea), .val (.int eb), .val (.int ec), .unset, .unset, .unset, .unset, .unset]) rfl ?_
  have bb (a b d k : Nat) : bel a b d k ≤ 3 := by simp only [bel]; split <;> split <;> split <;> omega
  have ss (a b : Nat) : sam a b ≤ 1 := by simp only [sam]; split <;> omega
  have y1 := bb m0 m1 m2 m0
  have y2 := ss m1 m0
  have y3 := bb m0 m1 m2 m2
  have y4 := ss m1 m2
  have y5 := ss m0 m2
  have feb : eb.toInt = ((bel m0 m1 m2 m0 + sam m1 m0 : Nat) : Int) := by rw [e_eb, own_iadd] <;> omega
  have fe1 : (r3 + r4).toInt = r3.toInt + r4.toInt := by rw [own_iadd] <;> omega
  have fec : ec.toInt = ((bel m0 m1 m2 m2 + sam m1 m2 + sam m0 m2 : Nat) : Int) := by rw [e_ec, own_iadd] <;> omega
  obtain ⟨⟨p1, p2, p3, p4, p5, p6, p7, p8, p9, p10, p11, p12, p13⟩, pj⟩ := pure_2 ⟨m0, l0⟩ ⟨m1, l1⟩ ⟨m2, l2⟩
  obtain ⟨pj1, pj2⟩ := pj ⟨mj, lj⟩
  simp only at p1 p2 p3 p4 p5 p6 p7 p8 p9 p10 p11 p12 p13 pj1 pj2
  clear bb ss y1 y2 y3 y4 y5 fe1
  refine WP.newobj (lay := L_IG) (vs := [.null, .null]) at_303 (w9 hw) (w10 hw) (w11 hw) (lay_IG hw) rfl (by decide) (by decide) (pc' := 306) rfl ?_
  intro g h61 eb_g g_g K62 O_g
  have lt_b1_g : b1 < g := by rw [eb_g]; exact A_b1.lt
  have lt_b2_g : b2 < g := by rw [eb_g]; exact A_b2.lt
  have lt_b3_g : b3 < g := by rw [eb_g]; exact A_b3.lt
  replace A_b1 := A_b1.keep K62 own_nil
  replace A_b2 := A_b2.keep K62 own_nil
  replace A_b3 := A_b3.keep K62 own_nil
  refine WP.dup at_306 rfl (pc' := 307) rfl ?_
  refine WP.iconst at_307 (z := (4 : Int32)) rfl (pc' := 308) rfl ?_
  refine WP.callI (a := g) (y := (⟨"com/example/stampwise/stampwise/history/IntGroups", "<init>", "(I)V"⟩ : MethodName)) (By := B3) (as := [(.int (4 : Int32))]) (rest := [(.ref g)]) at_308 (w12 hw) (w13 hw) (w11 hw) (w14 hw) rfl rfl (by decide) (ini_met hw g g_g O_g) pd_2 rfl rfl rfl (by decide) (Nat.le_of_ble_eq_true rfl) (by decide) (by decide) (pc' := 311) rfl ?_
  rintro _ h63 ⟨rfl, hI⟩
  show WP _ _ _ _ _ _ _ _ _ _ [(.ref g)]
  refine WP.astore at_311 (pc' := 313) rfl rfl (ls' := #[.val (.int keys), .val (.int v0), .val (.int v1), .val (.int v2), .val (.int perm), .val (.int k0), .val (.int k1), .val (.int k2), .val (.int j), .val (.int (2 : Int32)), .val (.ref b1), .val (.ref b2), .val (.ref b3), .val (.int (1 : Int32)), .val (.int (0 : Int32)), .val (.int (2 : Int32)), .val (.int k1), .val (.int k0), .val (.int k2), .val (.int v1), .val (.int v0), .val (.int v2), .val (.int ea), .val (.int eb), .val (.int ec), .val (.ref g), .unset, .unset, .unset, .unset]) rfl ?_
  refine WP.aload at_313 rfl rfl (pc' := 315) rfl ?_
  refine WP.iload at_315 rfl (pc' := 317) rfl ?_
  refine WP.callV (a := g) (z := (⟨"com/example/stampwise/stampwise/history/IntGroups", "count", "(I)V"⟩ : MethodName)) (Cl := "com/example/stampwise/stampwise/history/IntGroups") (y := (⟨"com/example/stampwise/stampwise/history/IntGroups", "count", "(I)V"⟩ : MethodName)) (By := B5) (as := [(.int k0)]) (rest := []) at_317 (w20 hw) (w21 hw) (w23 hw) (w22 hw) (w11 hw) (w24 hw) rfl rfl (by decide) hI.exa (cou_met hw g k0 m0 _ hI hk0 l0 p1) pd_2 rfl rfl rfl (by decide) (Nat.le_of_ble_eq_true rfl) (by decide) (by decide) (pc' := 320) rfl ?_
  rintro _ h64 ⟨rfl, hI⟩
  show WP _ _ _ _ _ _ _ _ _ _ []
  refine WP.aload at_320 rfl rfl (pc' := 322) rfl ?_
  refine WP.iload at_322 rfl (pc' := 324) rfl ?_
  refine WP.callV (a := g) (z := (⟨"com/example/stampwise/stampwise/history/IntGroups", "count", "(I)V"⟩ : MethodName)) (Cl := "com/example/stampwise/stampwise/history/IntGroups") (y := (⟨"com/example/stampwise/stampwise/history/IntGroups", "count", "(I)V"⟩ : MethodName)) (By := B5) (as := [(.int k1)]) (rest := []) at_324 (w20 hw) (w21 hw) (w23 hw) (w22 hw) (w11 hw) (w24 hw) rfl rfl (by decide) hI.exa (cou_met hw g k1 m1 _ hI hk1 l1 p2) pd_2 rfl rfl rfl (by decide) (Nat.le_of_ble_eq_true rfl) (by decide) (by decide) (pc' := 327) rfl ?_
  rintro _ h65 ⟨rfl, hI⟩
  show WP _ _ _ _ _ _ _ _ _ _ []
  refine WP.aload at_327 rfl rfl (pc' := 329) rfl ?_
  refine WP.iload at_329 rfl (pc' := 331) rfl ?_
  refine WP.callV (a := g) (z := (⟨"com/example/stampwise/stampwise/history/IntGroups", "count", "(I)V"⟩ : MethodName)) (Cl := "com/example/stampwise/stampwise/history/IntGroups") (y := (⟨"com/example/stampwise/stampwise/history/IntGroups", "count", "(I)V"⟩ : MethodName)) (By := B5) (as := [(.int k2)]) (rest := []) at_331 (w20 hw) (w21 hw) (w23 hw) (w22 hw) (w11 hw) (w24 hw) rfl rfl (by decide) hI.exa (cou_met hw g k2 m2 _ hI hk2 l2 p3) pd_2 rfl rfl rfl (by decide) (Nat.le_of_ble_eq_true rfl) (by decide) (by decide) (pc' := 334) rfl ?_
  rintro _ h66 ⟨rfl, hI⟩
  show WP _ _ _ _ _ _ _ _ _ _ []
  refine WP.aload at_334 rfl rfl (pc' := 336) rfl ?_
  refine WP.callV (a := g) (z := (⟨"com/example/stampwise/stampwise/history/IntGroups", "startPlacing", "()V"⟩ : MethodName)) (Cl := "com/example/stampwise/stampwise/history/IntGroups") (y := (⟨"com/example/stampwise/stampwise/history/IntGroups", "startPlacing", "()V"⟩ : MethodName)) (By := B6) (as := []) (rest := []) at_336 (w25 hw) (w26 hw) (w28 hw) (w27 hw) (w11 hw) (w29 hw) rfl rfl (by decide) hI.exa (stp_met hw g _ hI p4) pd_3 rfl rfl rfl (by decide) (Nat.le_of_ble_eq_true rfl) (by decide) (by decide) (pc' := 339) rfl ?_
  rintro _ h67 ⟨rfl, hI⟩
  show WP _ _ _ _ _ _ _ _ _ _ []
  refine WP.aload at_339 rfl rfl (pc' := 341) rfl ?_
  refine WP.iload at_341 rfl (pc' := 343) rfl ?_
  refine WP.iload at_343 rfl (pc' := 345) rfl ?_
  refine WP.callV (a := g) (z := (⟨"com/example/stampwise/stampwise/history/IntGroups", "place", "(II)I"⟩ : MethodName)) (Cl := "com/example/stampwise/stampwise/history/IntGroups") (y := (⟨"com/example/stampwise/stampwise/history/IntGroups", "place", "(II)I"⟩ : MethodName)) (By := B7) (as := [(.int k1), (.int v1)]) (rest := []) at_345 (w36 hw) (w37 hw) (w39 hw) (w38 hw) (w11 hw) (w40 hw) rfl rfl (by decide) hI.exa (plc_met hw g k1 v1 m1 _ _ hI hk1 l1 (by omega) (by simpa using p5)) pd_1 rfl rfl rfl (by decide) (Nat.le_of_ble_eq_true rfl) (by decide) (by decide) (pc' := 348) rfl ?_
  rintro _ h68 ⟨ra, rfl, hra, hI⟩
  show WP _ _ _ _ _ _ _ _ _ _ [(.int ra)]
  refine WP.istore at_348 (pc' := 350) rfl (ls' := #[.val (.int keys), .val (.int v0), .val (.int v1), .val (.int v2), .val (.int perm), .val (.int k0), .val (.int k1), .val (.int k2), .val (.int j), .val (.int (2 : Int32)), .val (.ref b1), .val (.ref b2), .val (.ref b3), .val (.int (1 : Int32)), .val (.int (0 : Int32)), .val (.int (2 : Int32)), .val (.int k1), .val (.int k0), .val (.int k2), .val (.int v1), .val (.int v0), .val (.int v2), .val (.int ea), .val (.int eb), .val (.int ec), .val (.ref g), .val (.int ra), .unset, .unset, .unset]) rfl ?_
  refine WP.aload at_350 rfl rfl (pc' := 352) rfl ?_
  refine WP.iload at_352 rfl (pc' := 354) rfl ?_
  refine WP.iload at_354 rfl (pc' := 356) rfl ?_
  refine WP.callV (a := g) (z := (⟨"com/example/stampwise/stampwise/history/IntGroups", "place", "(II)I"⟩ : MethodName)) (Cl := "com/example/stampwise/stampwise/history/IntGroups") (y := (⟨"com/example/stampwise/stampwise/history/IntGroups", "place", "(II)I"⟩ : MethodName)) (By := B7) (as := [(.int k0), (.int v0)]) (rest := []) at_356 (w36 hw) (w37 hw) (w39 hw) (w38 hw) (w11 hw) (w40 hw) rfl rfl (by decide) hI.exa (plc_met hw g k0 v0 m0 _ _ hI hk0 l0 (by omega) (by simpa using p6)) pd_1 rfl rfl rfl (by decide) (Nat.le_of_ble_eq_true rfl) (by decide) (by decide) (pc' := 359) rfl ?_
  rintro _ h69 ⟨rb, rfl, hrb, hI⟩
  show WP _ _ _ _ _ _ _ _ _ _ [(.int rb)]
  refine WP.istore at_359 (pc' := 361) rfl (ls' := #[.val (.int keys), .val (.int v0), .val (.int v1), .val (.int v2), .val (.int perm), .val (.int k0), .val (.int k1), .val (.int k2), .val (.int j), .val (.int (2 : Int32)), .val (.ref b1), .val (.ref b2), .val (.ref b3), .val (.int (1 : Int32)), .val (.int (0 : Int32)), .val (.int (2 : Int32)), .val (.int k1), .val (.int k0), .val (.int k2), .val (.int v1), .val (.int v0), .val (.int v2), .val (.int ea), .val (.int eb), .val (.int ec), .val (.ref g), .val (.int ra), .val (.int rb), .unset, .unset]) rfl ?_
  refine WP.aload at_361 rfl rfl (pc' := 363) rfl ?_
  refine WP.iload at_363 rfl (pc' := 365) rfl ?_
  refine WP.iload at_365 rfl (pc' := 367) rfl ?_
  refine WP.callV (a := g) (z := (⟨"com/example/stampwise/stampwise/history/IntGroups", "place", "(II)I"⟩ : MethodName)) (Cl := "com/example/stampwise/stampwise/history/IntGroups") (y := (⟨"com/example/stampwise/stampwise/history/IntGroups", "place", "(II)I"⟩ : MethodName)) (By := B7) (as := [(.int k2), (.int v2)]) (rest := []) at_367 (w36 hw) (w37 hw) (w39 hw) (w38 hw) (w11 hw) (w40 hw) rfl rfl (by decide) hI.exa (plc_met hw g k2 v2 m2 _ _ hI hk2 l2 (by omega) (by simpa using p7)) pd_1 rfl rfl rfl (by decide) (Nat.le_of_ble_eq_true rfl) (by decide) (by decide) (pc' := 370) rfl ?_
  rintro _ h70 ⟨rc, rfl, hrc, hI⟩
  show WP _ _ _ _ _ _ _ _ _ _ [(.int rc)]
  refine WP.istore at_370 (pc' := 372) rfl (ls' := #[.val (.int keys), .val (.int v0), .val (.int v1), .val (.int v2), .val (.int perm), .val (.int k0), .val (.int k1), .val (.int k2), .val (.int j), .val (.int (2 : Int32)), .val (.ref b1), .val (.ref b2), .val (.ref b3), .val (.int (1 : Int32)), .val (.int (0 : Int32)), .val (.int (2 : Int32)), .val (.int k1), .val (.int k0), .val (.int k2), .val (.int v1), .val (.int v0), .val (.int v2), .val (.int ea), .val (.int eb), .val (.int ec), .val (.ref g), .val (.int ra), .val (.int rb), .val (.int rc), .unset]) rfl ?_
  refine WP.iload at_372 rfl (pc' := 374) rfl ?_
  refine WP.iload at_374 rfl (pc' := 376) rfl ?_
  refine WP.icmpNe at_376 (tgt := 393) (by decide) (pc' := 379) rfl (fun c376 => ?_) (fun c376 => ?_)
  · exfalso; omega
  refine WP.iload at_379 rfl (pc' := 381) rfl ?_
  refine WP.iload at_381 rfl (pc' := 383) rfl ?_
  refine WP.icmpNe at_383 (tgt := 393) (by decide) (pc' := 386) rfl (fun c383 => ?_) (fun c383 => ?_)
  · exfalso; omega
  refine WP.iload at_386 rfl (pc' := 388) rfl ?_
  refine WP.iload at_388 rfl (pc' := 390) rfl ?_
  refine WP.icmpEq at_390 (tgt := 395) (by decide) (pc' := 393) rfl (fun c390 => ?_) (fun c390 => ?_)
  ·
    refine WP.aload at_395 rfl rfl (pc' := 397) rfl ?_
    refine WP.callV (a := g) (z := (⟨"com/example/stampwise/stampwise/history/IntGroups", "values", "()[I"⟩ : MethodName)) (Cl := "com/example/stampwise/stampwise/history/IntGroups") (y := (⟨"com/example/stampwise/stampwise/history/IntGroups", "values", "()[I"⟩ : MethodName)) (By := B8) (as := []) (rest := []) at_397 (w41 hw) (w42 hw) (w44 hw) (w43 hw) (w11 hw) (w45 hw) rfl rfl (by decide) hI.exa (vls_met hw g _ _ hI) pd_4 rfl rfl rfl (by decide) (Nat.le_of_ble_eq_true rfl) (by decide) (by decide) (pc' := 400) rfl ?_
    rintro _ h71 ⟨wa, rfl, A_wa, hI⟩
    show WP _ _ _ _ _ _ _ _ _ _ [(.ref wa)]
    refine WP.astore at_400 (pc' := 402) rfl rfl (ls' := #[.val (.int keys), .val (.int v0), .val (.int v1), .val (.int v2), .val (.int perm), .val (.int k0), .val (.int k1), .val (.int k2), .val (.int j), .val (.int (2 : Int32)), .val (.ref b1), .val (.ref b2), .val (.ref b3), .val (.int (1 : Int32)), .val (.int (0 : Int32)), .val (.int (2 : Int32)), .val (.int k1), .val (.int k0), .val (.int k2), .val (.int v1), .val (.int v0), .val (.int v2), .val (.int ea), .val (.int eb), .val (.int ec), .val (.ref g), .val (.int ra), .val (.int rb), .val (.int rc), .val (.ref wa)]) rfl ?_
    refine WP.aload at_402 rfl rfl (pc' := 404) rfl ?_
    refine WP.ifnullN at_404 (pc' := 407) rfl ?_
    refine WP.aload at_407 rfl rfl (pc' := 409) rfl ?_
    refine WP.alen at_409 A_wa (k := (3 : Int32)) (by simp) (pc' := 410) rfl ?_
    refine WP.iconst at_410 (z := (3 : Int32)) rfl (pc' := 411) rfl ?_
    refine WP.icmpEq at_411 (tgt := 416) (by decide) (pc' := 414) rfl (fun c411 => ?_) (fun c411 => ?_)
    ·
      obtain ⟨na, hna⟩ : ∃ z, z = (sp (cnt (cnt (cnt [0, 0, 0, 0, 0] m0) m1) m2)).getD (m1 + 1) 0 := ⟨_, rfl⟩
      obtain ⟨nb, hnb⟩ : ∃ z, z = (cnt (sp (cnt (cnt (cnt [0, 0, 0, 0, 0] m0) m1) m2)) m1).getD (m0 + 1) 0 := ⟨_, rfl⟩
      obtain ⟨nc, hnc⟩ : ∃ z, z = (cnt (cnt (sp (cnt (cnt (cnt [0, 0, 0, 0, 0] m0) m1) m2)) m1) m0).getD (m2 + 1) 0 := ⟨_, rfl⟩
      rw [← hna] at A_wa p5 p8 p11 p12
      rw [← hnb] at A_wa p6 p9 p11 p13
      rw [← hnc] at A_wa p7 p10 p12 p13
      refine WP.aload at_416 rfl rfl (pc' := 418) rfl ?_
      refine WP.iload at_418 rfl (pc' := 420) rfl ?_
      refine WP.iaload na at_420 A_wa (x := v1) (by omega) (by rw [List.getElem?_set_ne (by omega), List.getElem?_set_ne (by omega), List.getElem?_set_self (by simpa using p5)]) (pc' := 421) rfl ?_
      refine WP.iload at_421 rfl (pc' := 423) rfl ?_
      refine WP.icmpNe at_423 (tgt := 446) (by decide) (pc' := 426) rfl (fun c423 => ?_) (fun c423 => ?_)
      · exfalso; omega
      refine WP.aload at_426 rfl rfl (pc' := 428) rfl ?_
      refine WP.iload at_428 rfl (pc' := 430) rfl ?_
      refine WP.iaload nb at_430 A_wa (x := v0) (by omega) (by rw [List.getElem?_set_ne (by omega), List.getElem?_set_self (by simpa using p6)]) (pc' := 431) rfl ?_
      refine WP.iload at_431 rfl (pc' := 433) rfl ?_
      refine WP.icmpNe at_433 (tgt := 446) (by decide) (pc' := 436) rfl (fun c433 => ?_) (fun c433 => ?_)
      · exfalso; omega
      refine WP.aload at_436 rfl rfl (pc' := 438) rfl ?_
      refine WP.iload at_438 rfl (pc' := 440) rfl ?_
      refine WP.iaload nc at_440 A_wa (x := v2) (by omega) (by rw [List.getElem?_set_self (by simpa using p7)]) (pc' := 441) rfl ?_
      refine WP.iload at_441 rfl (pc' := 443) rfl ?_
      refine WP.icmpEq at_443 (tgt := 448) (by decide) (pc' := 446) rfl (fun c443 => ?_) (fun c443 => ?_)
      ·
        refine WP.aload at_448 rfl rfl (pc' := 450) rfl ?_
        refine WP.iload at_450 rfl (pc' := 452) rfl ?_
        refine WP.callV (a := g) (z := (⟨"com/example/stampwise/stampwise/history/IntGroups", "start", "(I)I"⟩ : MethodName)) (Cl := "com/example/stampwise/stampwise/history/IntGroups") (y := (⟨"com/example/stampwise/stampwise/history/IntGroups", "start", "(I)I"⟩ : MethodName)) (By := B9) (as := [(.int j)]) (rest := []) at_452 (w46 hw) (w47 hw) (w49 hw) (w48 hw) (w11 hw) (w50 hw) rfl rfl (by decide) hI.exa (sta_met hw g j mj _ _ hI hj lj pj2) pd_5 rfl rfl rfl (by decide) (Nat.le_of_ble_eq_true rfl) (by decide) (by decide) (pc' := 455) rfl ?_
        rintro _ h72 ⟨rs, rfl, hrs⟩
        show WP _ _ _ _ _ _ _ _ _ _ [(.int rs)]
        refine WP.iload at_455 rfl (pc' := 457) rfl ?_
        refine WP.iload at_457 rfl (pc' := 459) rfl ?_
        refine WP.iload at_459 rfl (pc' := 461) rfl ?_
        refine WP.iload at_461 rfl (pc' := 463) rfl ?_
        refine WP.callS (y := (⟨"com/example/stampwise/stampwise/history/IntGroupsPlacePinLaw", "below", "(IIII)I"⟩ : MethodName)) (By := B1) (as := [(.int k0), (.int k1), (.int k2), (.int j)]) (rest := [(.int rs)]) at_463 (w2 hw) (w3 hw) (w4 hw) (w5 hw) (by decide) (bel_met hw k0 k1 k2 j m0 m1 m2 mj hk0 hk1 hk2 hj) pd_0 rfl rfl rfl (by decide) (Nat.le_of_ble_eq_true rfl) (by decide) (by decide) (pc' := 466) rfl ?_
        rintro _ _ ⟨rfl, rb2, rfl, hrb2⟩
        show WP _ _ _ _ _ _ _ _ _ _ [(.int rb2), (.int rs)]
        refine WP.icmpNe at_466 (tgt := 473) (by decide) (pc' := 469) rfl (fun c466 => ?_) (fun c466 => ?_)
        ·
          refine WP.iconst at_473 (z := (0 : Int32)) rfl (pc' := 474) rfl ?_
          exact WP.retN at_474 (t := .boolean) rfl (by simp) (by decide) (by decide) (by exfalso; omega)
        refine WP.iconst at_469 (z := (1 : Int32)) rfl (pc' := 470) rfl ?_
        refine WP.goto at_470 (pc' := 474) (by decide) ?_
        exact WP.retN at_474 (t := .boolean) rfl (by simp) (by decide) (by decide) own_q1
      exfalso; omega
    exfalso; omega
  exfalso; omega
theorem law_40_3 {l : Launch} {Z : State} {a0 : Array Value} (hw : HW Z a0) {n0 : Nat} {h : Heap} (keys v0 v1 v2 perm k0 k1 k2 j : Int32) (m0 m1 m2 mj : Nat) (hk0 : k0.toInt = (m0 : Int)) (hk1 : k1.toInt = (m1 : Int)) (hk2 : k2.toInt = (m2 : Int)) (hj : j.toInt = (mj : Int)) (l0 : m0 < 4) (l1 : m1 < 4) (l2 : m2 < 4) (lj : mj < 5) : WP l B0 Z n0 (fun v h' => v = some (.int 1)) h 0 0 40 #[.val (.int keys), .val (.int v0), .val (.int v1), .val (.int v2), .val (.int perm), .val (.int k0), .val (.int k1), .val (.int k2), .val (.int j), .val (.int (3 : Int32)), .unset, .unset, .unset, .unset, .unset, .unset, .unset, .unset, .unset, .unset, .unset, .unset, .unset, .unset, .unset, .unset, .unset, .unset, .unset, .unset] [] := by
  have k32_0 : (0 : Int32).toInt = 0 := by decide
  have k32_1 : (1 : Int32).toInt = 1 := by decide
  have k32_2 : (2 : Int32).toInt = 2 := by decide
  have k32_3 : (3 : Int32).toInt = 3 := by decide
  have k32_4 : (4 : Int32).toInt = 4 := by decide
  have k32_5 : (5 : Int32).toInt = 5 := by decide
  have k32_6 : (6 : Int32).toInt = 6 := by decide
  have k32_7 : (7 : Int32).toInt = 7 := by decide
  have k32_8 : (8 : Int32).toInt = 8 := by decide
  have k32_9 : (9 : Int32).toInt = 9 := by decide
  have k32_10 : (10 : Int32).toInt = 10 := by decide
  have k32_11 : (11 : Int32).toInt = 11 := by decide
  have k32_12 : (12 : Int32).toInt = 12 := by decide
  have k32_13 : (13 : Int32).toInt = 13 := by decide
  have k32_14 : (14 : Int32).toInt = 14 := by decide
  have k32_15 : (15 : Int32).toInt = 15 := by decide
  have k32_16 : (16 : Int32).toInt = 16 := by decide
  have k32_17 : (17 : Int32).toInt = 17 := by decide
  have k32_18 : (18 : Int32).toInt = 18 := by decide
  refine WP.bipush at_40 (z := (18 : Int32)) rfl (pc' := 42) rfl ?_
  refine WP.newarr at_42 (w1 hw) (k := 18) rfl 18 (by decide) (by decide) (by decide) (by decide) (pc' := 44) rfl ?_
  intro b1 h1 eb_b1 g_b1 K2 A_b1
  replace A_b1 : Av Z h1 b1 .int [.int 0, .int 0, .int 0, .int 0, .int 0, .int 0, .int 0, .int 0, .int 0, .int 0, .int 0, .int 0, .int 0, .int 0, .int 0, .int 0, .int 0, .int 0] := A_b1
  refine WP.dup at_44 rfl (pc' := 45) rfl ?_
  refine WP.iconst at_45 (z := (0 : Int32)) rfl (pc' := 46) rfl ?_
  refine WP.iconst at_46 (z := (0 : Int32)) rfl (pc' := 47) rfl ?_
  refine WP.iastore 0 at_47 A_b1 rfl (Nat.le_of_ble_eq_true rfl) g_b1 (pc' := 48) rfl ?_
  intro h3 K4 A_n
  replace A_b1 : Av Z h3 b1 .int [(.int (0 : Int32)), (.int 0), (.int 0), (.int 0), (.int 0), (.int 0), (.int 0), (.int 0), (.int 0), (.int 0), (.int 0), (.int 0), (.int 0), (.int 0), (.int 0), (.int 0), (.int 0), (.int 0)] := A_n
  clear A_n
  refine WP.dup at_48 rfl (pc' := 49) rfl ?_
  refine WP.iconst at_49 (z := (1 : Int32)) rfl (pc' := 50) rfl ?_
  refine WP.iconst at_50 (z := (1 : Int32)) rfl (pc' := 51) rfl ?_
  refine WP.iastore 1 at_51 A_b1 rfl (Nat.le_of_ble_eq_true rfl) g_b1 (pc' := 52) rfl ?_
  intro h5 K6 A_n
  replace A_b1 : Av Z h5 b1 .int [(.int (0 : Int32)), (.int (1 : Int32)), (.int 0), (.int 0), (.int 0), (.int 0), (.int 0), (.int 0), (.int 0), (.int 0), (.int 0), (.int 0), (.int 0), (.int 0), (.int 0), (.int 0), (.int 0), (.int 0)] := A_n
  clear A_n
  refine WP.dup at_52 rfl (pc' := 53) rfl ?_
  refine WP.iconst at_53 (z := (2 : Int32)) rfl (pc' := 54) rfl ?_
  refine WP.iconst at_54 (z := (2 : Int32)) rfl (pc' := 55) rfl ?_
  refine WP.iastore 2 at_55 A_b1 rfl (Nat.le_of_ble_eq_true rfl) g_b1 (pc' := 56) rfl ?_
  intro h7 K8 A_n
  replace A_b1 : Av Z h7 b1 .int [(.int (0 : Int32)), (.int (1 : Int32)), (.int (2 : Int32)), (.int 0), (.int 0), (.int 0), (.int 0), (.int 0), (.int 0), (.int 0), (.int 0), (.int 0), (.int 0), (.int 0), (.int 0), (.int 0), (.int 0), (.int 0)] := A_n
  clear A_n
  refine WP.dup at_56 rfl (pc' := 57) rfl ?_
  refine WP.iconst at_57 (z := (3 : Int32)) rfl (pc' := 58) rfl ?_
  refine WP.iconst at_58 (z := (0 : Int32)) rfl (pc' := 59) rfl ?_
  refine WP.iastore 3 at_59 A_b1 rfl (Nat.le_of_ble_eq_true rfl) g_b1 (pc' := 60) rfl ?_
  intro h9 K10 A_n
  replace A_b1 : Av Z h9 b1 .int [(.int (0 : Int32)), (.int (1 : Int32)), (.int (2 : Int32)), (.int (0 : Int32)), (.int 0), (.int 0), (.int 0), (.int 0), (.int 0), (.int 0), (.int 0), (.int 0), (.int 0), (.int 0), (.int 0), (.int 0), (.int 0), (.int 0)] := A_n
  clear A_n
  refine WP.dup at_60 rfl (pc' := 61) rfl ?_
  refine WP.iconst at_61 (z := (4 : Int32)) rfl (pc' := 62) rfl ?_
  refine WP.iconst at_62 (z := (2 : Int32)) rfl (pc' := 63) rfl ?_
  refine WP.iastore 4 at_63 A_b1 rfl (Nat.le_of_ble_eq_true rfl) g_b1 (pc' := 64) rfl ?_
  intro h11 K12 A_n
  replace A_b1 : Av Z h11 b1 .int [(.int (0 : Int32)), (.int (1 : Int32)), (.int (2 : Int32)), (.int (0 : Int32)), (.int (2 : Int32)), (.int 0), (.int 0), (.int 0), (.int 0), (.int 0), (.int 0), (.int 0), (.int 0), (.int 0), (.int 0), (.int 0), (.int 0), (.int 0)] := A_n
  clear A_n
  refine WP.dup at_64 rfl (pc' := 65) rfl ?_
  refine WP.iconst at_65 (z := (5 : Int32)) rfl (pc' := 66) rfl ?_
  refine WP.iconst at_66 (z := (1 : Int32)) rfl (pc' := 67) rfl ?_
  refine WP.iastore 5 at_67 A_b1 rfl (Nat.le_of_ble_eq_true rfl) g_b1 (pc' := 68) rfl ?_
  intro h13 K14 A_n
  replace A_b1 : Av Z h13 b1 .int [(.int (0 : Int32)), (.int (1 : Int32)), (.int (2 : Int32)), (.int (0 : Int32)), (.int (2 : Int32)), (.int (1 : Int32)), (.int 0), (.int 0), (.int 0), (.int 0), (.int 0), (.int 0), (.int 0), (.int 0), (.int 0), (.int 0), (.int 0), (.int 0)] := A_n
  clear A_n
  refine WP.dup at_68 rfl (pc' := 69) rfl ?_
  refine WP.bipush at_69 (z := (6 : Int32)) rfl (pc' := 71) rfl ?_
  refine WP.iconst at_71 (z := (1 : Int32)) rfl (pc' := 72) rfl ?_
  refine WP.iastore 6 at_72 A_b1 rfl (Nat.le_of_ble_eq_true rfl) g_b1 (pc' := 73) rfl ?_
  intro h15 K16 A_n
  replace A_b1 : Av Z h15 b1 .int [(.int (0 : Int32)), (.int (1 : Int32)), (.int (2 : Int32)), (.int (0 : Int32)), (.int (2 : Int32)), (.int (1 : Int32)), (.int (1 : Int32)), (.int 0), (.int 0), (.int 0), (.int 0), (.int 0), (.int 0), (.int 0), (.int 0), (.int 0), (.int 0), (.int 0)] := A_n
  clear A_n
  refine WP.dup at_73 rfl (pc' := 74) rfl ?_
  refine WP.bipush at_74 (z := (7 : Int32)) rfl (pc' := 76) rfl ?_
  refine WP.iconst at_76 (z := (0 : Int32)) rfl (pc' := 77) rfl ?_
  refine WP.iastore 7 at_77 A_b1 rfl (Nat.le_of_ble_eq_true rfl) g_b1 (pc' := 78) rfl ?_
  intro h17 K18 A_n
  replace A_b1 : Av Z h17 b1 .int [(.int (0 : Int32)), (.int (1 : Int32)), (.int (2 : Int32)), (.int (0 : Int32)), (.int (2 : Int32)), (.int (1 : Int32)), (.int (1 : Int32)), (.int (0 : Int32)), (.int 0), (.int 0), (.int 0), (.int 0), (.int 0), (.int 0), (.int 0), (.int 0), (.int 0), (.int 0)] := A_n
  clear A_n
  refine WP.dup at_78 rfl (pc' := 79) rfl ?_
  refine WP.bipush at_79 (z := (8 : Int32)) rfl (pc' := 81) rfl ?_
  refine WP.iconst at_81 (z := (2 : Int32)) rfl (pc' := 82) rfl ?_
  refine WP.iastore 8 at_82 A_b1 rfl (Nat.le_of_ble_eq_true rfl) g_b1 (pc' := 83) rfl ?_
  intro h19 K20 A_n
  replace A_b1 : Av Z h19 b1 .int [(.int (0 : Int32)), (.int (1 : Int32)), (.int (2 : Int32)), (.int (0 : Int32)), (.int (2 : Int32)), (.int (1 : Int32)), (.int (1 : Int32)), (.int (0 : Int32)), (.int (2 : Int32)), (.int 0), (.int 0), (.int 0), (.int 0), (.int 0), (.int 0), (.int 0), (.int 0), (.int 0)] := A_n
  clear A_n
  refine WP.dup at_83 rfl (pc' := 84) rfl ?_
  refine WP.bipush at_84 (z := (9 : Int32)) rfl (pc' := 86) rfl ?_
  refine WP.iconst at_86 (z := (1 : Int32)) rfl (pc' := 87) rfl ?_
  refine WP.iastore 9 at_87 A_b1 rfl (Nat.le_of_ble_eq_true rfl) g_b1 (pc' := 88) rfl ?_
  intro h21 K22 A_n
  replace A_b1 : Av Z h21 b1 .int [(.int (0 : Int32)), (.int (1 : Int32)), (.int (2 : Int32)), (.int (0 : Int32)), (.int (2 : Int32)), (.int (1 : Int32)), (.int (1 : Int32)), (.int (0 : Int32)), (.int (2 : Int32)), (.int (1 : Int32)), (.int 0), (.int 0), (.int 0), (.int 0), (.int 0), (.int 0), (.int 0), (.int 0)] := A_n
  clear A_n
  refine WP.dup at_88 rfl (pc' := 89) rfl ?_
  refine WP.bipush at_89 (z := (10 : Int32)) rfl (pc' := 91) rfl ?_
  refine WP.iconst at_91 (z := (2 : Int32)) rfl (pc' := 92) rfl ?_
  refine WP.iastore 10 at_92 A_b1 rfl (Nat.le_of_ble_eq_true rfl) g_b1 (pc' := 93) rfl ?_
  intro h23 K24 A_n
  replace A_b1 : Av Z h23 b1 .int [(.int (0 : Int32)), (.int (1 : Int32)), (.int (2 : Int32)), (.int (0 : Int32)), (.int (2 : Int32)), (.int (1 : Int32)), (.int (1 : Int32)), (.int (0 : Int32)), (.int (2 : Int32)), (.int (1 : Int32)), (.int (2 : Int32)), (.int 0), (.int 0), (.int 0), (.int 0), (.int 0), (.int 0), (.int 0)] := A_n
  clear A_n
  refine WP.dup at_93 rfl (pc' := 94) rfl ?_
  refine WP.bipush at_94 (z := (11 : Int32)) rfl (pc' := 96) rfl ?_
  refine WP.iconst at_96 (z := (0 : Int32)) rfl (pc' := 97) rfl ?_
  refine WP.iastore 11 at_97 A_b1 rfl (Nat.le_of_ble_eq_true rfl) g_b1 (pc' := 98) rfl ?_
  intro h25 K26 A_n
  replace A_b1 : Av Z h25 b1 .int [(.int (0 : Int32)), (.int (1 : Int32)), (.int (2 : Int32)), (.int (0 : Int32)), (.int (2 : Int32)), (.int (1 : Int32)), (.int (1 : Int32)), (.int (0 : Int32)), (.int (2 : Int32)), (.int (1 : Int32)), (.int (2 : Int32)), (.int (0 : Int32)), (.int 0), (.int 0), (.int 0), (.int 0), (.int 0), (.int 0)] := A_n
  clear A_n
  refine WP.dup at_98 rfl (pc' := 99) rfl ?_
  refine WP.bipush at_99 (z := (12 : Int32)) rfl (pc' := 101) rfl ?_
  refine WP.iconst at_101 (z := (2 : Int32)) rfl (pc' := 102) rfl ?_
  refine WP.iastore 12 at_102 A_b1 rfl (Nat.le_of_ble_eq_true rfl) g_b1 (pc' := 103) rfl ?_
  intro h27 K28 A_n
  replace A_b1 : Av Z h27 b1 .int [(.int (0 : Int32)), (.int (1 : Int32)), (.int (2 : Int32)), (.int (0 : Int32)), (.int (2 : Int32)), (.int (1 : Int32)), (.int (1 : Int32)), (.int (0 : Int32)), (.int (2 : Int32)), (.int (1 : Int32)), (.int (2 : Int32)), (.int (0 : Int32)), (.int (2 : Int32)), (.int 0), (.int 0), (.int 0), (.int 0), (.int 0)] := A_n
  clear A_n
  refine WP.dup at_103 rfl (pc' := 104) rfl ?_
  refine WP.bipush at_104 (z := (13 : Int32)) rfl (pc' := 106) rfl ?_
  refine WP.iconst at_106 (z := (0 : Int32)) rfl (pc' := 107) rfl ?_
  refine WP.iastore 13 at_107 A_b1 rfl (Nat.le_of_ble_eq_true rfl) g_b1 (pc' := 108) rfl ?_
  intro h29 K30 A_n
  replace A_b1 : Av Z h29 b1 .int [(.int (0 : Int32)), (.int (1 : Int32)), (.int (2 : Int32)), (.int (0 : Int32)), (.int (2 : Int32)), (.int (1 : Int32)), (.int (1 : Int32)), (.int (0 : Int32)), (.int (2 : Int32)), (.int (1 : Int32)), (.int (2 : Int32)), (.int (0 : Int32)), (.int (2 : Int32)), (.int (0 : Int32)), (.int 0), (.int 0), (.int 0), (.int 0)] := A_n
  clear A_n
  refine WP.dup at_108 rfl (pc' := 109) rfl ?_
  refine WP.bipush at_109 (z := (14 : Int32)) rfl (pc' := 111) rfl ?_
  refine WP.iconst at_111 (z := (1 : Int32)) rfl (pc' := 112) rfl ?_
  refine WP.iastore 14 at_112 A_b1 rfl (Nat.le_of_ble_eq_true rfl) g_b1 (pc' := 113) rfl ?_
  intro h31 K32 A_n
  replace A_b1 : Av Z h31 b1 .int [(.int (0 : Int32)), (.int (1 : Int32)), (.int (2 : Int32)), (.int (0 : Int32)), (.int (2 : Int32)), (.int (1 : Int32)), (.int (1 : Int32)), (.int (0 : Int32)), (.int (2 : Int32)), (.int (1 : Int32)), (.int (2 : Int32)), (.int (0 : Int32)), (.int (2 : Int32)), (.int (0 : Int32)), (.int (1 : Int32)), (.int 0), (.int 0), (.int 0)] := A_n
  clear A_n
  refine WP.dup at_113 rfl (pc' := 114) rfl ?_
  refine WP.bipush at_114 (z := (15 : Int32)) rfl (pc' := 116) rfl ?_
  refine WP.iconst at_116 (z := (2 : Int32)) rfl (pc' := 117) rfl ?_
  refine WP.iastore 15 at_117 A_b1 rfl (Nat.le_of_ble_eq_true rfl) g_b1 (pc' := 118) rfl ?_
  intro h33 K34 A_n
  replace A_b1 : Av Z h33 b1 .int [(.int (0 : Int32)), (.int (1 : Int32)), (.int (2 : Int32)), (.int (0 : Int32)), (.int (2 : Int32)), (.int (1 : Int32)), (.int (1 : Int32)), (.int (0 : Int32)), (.int (2 : Int32)), (.int (1 : Int32)), (.int (2 : Int32)), (.int (0 : Int32)), (.int (2 : Int32)), (.int (0 : Int32)), (.int (1 : Int32)), (.int (2 : Int32)), (.int 0), (.int 0)] := A_n
  clear A_n
  refine WP.dup at_118 rfl (pc' := 119) rfl ?_
  refine WP.bipush at_119 (z := (16 : Int32)) rfl (pc' := 121) rfl ?_
  refine WP.iconst at_121 (z := (1 : Int32)) rfl (pc' := 122) rfl ?_
  refine WP.iastore 16 at_122 A_b1 rfl (Nat.le_of_ble_eq_true rfl) g_b1 (pc' := 123) rfl ?_
  intro h35 K36 A_n
  replace A_b1 : Av Z h35 b1 .int [(.int (0 : Int32)), (.int (1 : Int32)), (.int (2 : Int32)), (.int (0 : Int32)), (.int (2 : Int32)), (.int (1 : Int32)), (.int (1 : Int32)), (.int (0 : Int32)), (.int (2 : Int32)), (.int (1 : Int32)), (.int (2 : Int32)), (.int (0 : Int32)), (.int (2 : Int32)), (.int (0 : Int32)), (.int (1 : Int32)), (.int (2 : Int32)), (.int (1 : Int32)), (.int 0)] := A_n
  clear A_n
  refine WP.dup at_123 rfl (pc' := 124) rfl ?_
  refine WP.bipush at_124 (z := (17 : Int32)) rfl (pc' := 126) rfl ?_
  refine WP.iconst at_126 (z := (0 : Int32)) rfl (pc' := 127) rfl ?_
  refine WP.iastore 17 at_127 A_b1 rfl (Nat.le_of_ble_eq_true rfl) g_b1 (pc' := 128) rfl ?_
  intro h37 K38 A_n
  replace A_b1 : Av Z h37 b1 .int [(.int (0 : Int32)), (.int (1 : Int32)), (.int (2 : Int32)), (.int (0 : Int32)), (.int (2 : Int32)), (.int (1 : Int32)), (.int (1 : Int32)), (.int (0 : Int32)), (.int (2 : Int32)), (.int (1 : Int32)), (.int (2 : Int32)), (.int (0 : Int32)), (.int (2 : Int32)), (.int (0 : Int32)), (.int (1 : Int32)), (.int (2 : Int32)), (.int (1 : Int32)), (.int (0 : Int32))] := A_n
  clear A_n
  refine WP.astore at_128 (pc' := 130) rfl rfl (ls' := #[.val (.int keys), .val (.int v0), .val (.int v1), .val (.int v2), .val (.int perm), .val (.int k0), .val (.int k1), .val (.int k2), .val (.int j), .val (.int (3 : Int32)), .val (.ref b1), .unset, .unset, .unset, .unset, .unset, .unset, .unset, .unset, .unset, .unset, .unset, .unset, .unset, .unset, .unset, .unset, .unset, .unset, .unset]) rfl ?_
  refine WP.iconst at_130 (z := (3 : Int32)) rfl (pc' := 131) rfl ?_
  refine WP.newarr at_131 (w1 hw) (k := 3) rfl 3 (by decide) (by decide) (by decide) (by decide) (pc' := 133) rfl ?_
  intro b2 h39 eb_b2 g_b2 K40 A_b2
  replace A_b2 : Av Z h39 b2 .int [.int 0, .int 0, .int 0] := A_b2
  have lt_b1_b2 : b1 < b2 := by rw [eb_b2]; exact A_b1.lt
  replace A_b1 := A_b1.keep K40 own_nil
  refine WP.dup at_133 rfl (pc' := 134) rfl ?_
  refine WP.iconst at_134 (z := (0 : Int32)) rfl (pc' := 135) rfl ?_
  refine WP.iload at_135 rfl (pc' := 137) rfl ?_
  refine WP.iastore 0 at_137 A_b2 rfl (Nat.le_of_ble_eq_true rfl) g_b2 (pc' := 138) rfl ?_
  intro h41 K42 A_n
  replace A_b1 := A_b1.keep K42 (own_cons (by first | assumption | exact Ne.symm (by assumption) | exact Nat.ne_of_lt (by assumption) | exact Nat.ne_of_gt (by assumption)) own_nil)
  replace A_b2 : Av Z h41 b2 .int [(.int k0), (.int 0), (.int 0)] := A_n
  clear A_n
  refine WP.dup at_138 rfl (pc' := 139) rfl ?_
  refine WP.iconst at_139 (z := (1 : Int32)) rfl (pc' := 140) rfl ?_
  refine WP.iload at_140 rfl (pc' := 142) rfl ?_
  refine WP.iastore 1 at_142 A_b2 rfl (Nat.le_of_ble_eq_true rfl) g_b2 (pc' := 143) rfl ?_
  intro h43 K44 A_n
  replace A_b1 := A_b1.keep K44 (own_cons (by first | assumption | exact Ne.symm (by assumption) | exact Nat.ne_of_lt (by assumption) | exact Nat.ne_of_gt (by assumption)) own_nil)
  replace A_b2 : Av Z h43 b2 .int [(.int k0), (.int k1), (.int 0)] := A_n
  clear A_n
  refine WP.dup at_143 rfl (pc' := 144) rfl ?_
  refine WP.iconst at_144 (z := (2 : Int32)) rfl (pc' := 145) rfl ?_
  refine WP.iload at_145 rfl (pc' := 147) rfl ?_
  refine WP.iastore 2 at_147 A_b2 rfl (Nat.le_of_ble_eq_true rfl) g_b2 (pc' := 148) rfl ?_
  intro h45 K46 A_n
  replace A_b1 := A_b1.keep K46 (own_cons (by first | assumption | exact Ne.symm (by assumption) | exact Nat.ne_of_lt (by assumption) | exact Nat.ne_of_gt (by assumption)) own_nil)
  replace A_b2 : Av Z h45 b2 .int [(.int k0), (.int k1), (.int k2)] := A_n
  clear A_n
  refine WP.astore at_148 (pc' := 150) rfl rfl (ls' := #[.val (.int keys), .val (.int v0), .val (.int v1), .val (.int v2), .val (.int perm), .val (.int k0), .val (.int k1), .val (.int k2), .val (.int j), .val (.int (3 : Int32)), .val (.ref b1), .val (.ref b2), .unset, .unset, .unset, .unset, .unset, .unset, .unset, .unset, .unset, .unset, .unset, .unset, .unset, .unset, .unset, .unset, .unset, .unset]) rfl ?_
  refine WP.iconst at_150 (z := (3 : Int32)) rfl (pc' := 151) rfl ?_
  refine WP.newarr at_151 (w1 hw) (k := 3) rfl 3 (by decide) (by decide) (by decide) (by decide) (pc' := 153) rfl ?_
  intro b3 h47 eb_b3 g_b3 K48 A_b3
  replace A_b3 : Av Z h47 b3 .int [.int 0, .int 0, .int 0] := A_b3
  have lt_b1_b3 : b1 < b3 := by rw [eb_b3]; exact A_b1.lt
  have lt_b2_b3 : b2 < b3 := by rw [eb_b3]; exact A_b2.lt
  replace A_b1 := A_b1.keep K48 own_nil
  replace A_b2 := A_b2.keep K48 own_nil
  refine WP.dup at_153 rfl (pc' := 154) rfl ?_
  refine WP.iconst at_154 (z := (0 : Int32)) rfl (pc' := 155) rfl ?_
  refine WP.iloadN at_155 rfl (pc' := 156) rfl ?_
  refine WP.iastore 0 at_156 A_b3 rfl (Nat.le_of_ble_eq_true rfl) g_b3 (pc' := 157) rfl ?_
  intro h49 K50 A_n
  replace A_b1 := A_b1.keep K50 (own_cons (by first | assumption | exact Ne.symm (by assumption) | exact Nat.ne_of_lt (by assumption) | exact Nat.ne_of_gt (by assumption)) own_nil)
  replace A_b2 := A_b2.keep K50 (own_cons (by first | assumption | exact Ne.symm (by assumption) | exact Nat.ne_of_lt (by assumption) | exact Nat.ne_of_gt (by assumption)) own_nil)
  replace A_b3 : Av Z h49 b3 .int [(.int v0), (.int 0), (.int 0)] := A_n
  clear A_n
  refine WP.dup at_157 rfl (pc' := 158) rfl ?_
  refine WP.iconst at_158 (z := (1 : Int32)) rfl (pc' := 159) rfl ?_
  refine WP.iloadN at_159 rfl (pc' := 160) rfl ?_
  refine WP.iastore 1 at_160 A_b3 rfl (Nat.le_of_ble_eq_true rfl) g_b3 (pc' := 161) rfl ?_
  intro h51 K52 A_n
  replace A_b1 := A_b1.keep K52 (own_cons (by first | assumption | exact Ne.symm (by assumption) | exact Nat.ne_of_lt (by assumption) | exact Nat.ne_of_gt (by assumption)) own_nil)
  replace A_b2 := A_b2.keep K52 (own_cons (by first | assumption | exact Ne.symm (by assumption) | exact Nat.ne_of_lt (by assumption) | exact Nat.ne_of_gt (by assumption)) own_nil)
  replace A_b3 : Av Z h51 b3 .int [(.int v0), (.int v1), (.int 0)] := A_n
  clear A_n
  refine WP.dup at_161 rfl (pc' := 162) rfl ?_
  refine WP.iconst at_162 (z := (2 : Int32)) rfl (pc' := 163) rfl ?_
  refine WP.iloadN at_163 rfl (pc' := 164) rfl ?_
  refine WP.iastore 2 at_164 A_b3 rfl (Nat.le_of_ble_eq_true rfl) g_b3 (pc' := 165) rfl ?_
  intro h53 K54 A_n
  replace A_b1 := A_b1.keep K54 (own_cons (by first | assumption | exact Ne.symm (by assumption) | exact Nat.ne_of_lt (by assumption) | exact Nat.ne_of_gt (by assumption)) own_nil)
  replace A_b2 := A_b2.keep K54 (own_cons (by first | assumption | exact Ne.symm (by assumption) | exact Nat.ne_of_lt (by assumption) | exact Nat.ne_of_gt (by assumption)) own_nil)
  replace A_b3 : Av Z h53 b3 .int [(.int v0), (.int v1), (.int v2)] := A_n
  clear A_n
  refine WP.astore at_165 (pc' := 167) rfl rfl (ls' := #[.val (.int keys), .val (.int v0), .val (.int v1), .val (.int v2), .val (.int perm), .val (.int k0), .val (.int k1), .val (.int k2), .val (.int j), .val (.int (3 : Int32)), .val (.ref b1), .val (.ref b2), .val (.ref b3), .unset, .unset, .unset, .unset, .unset, .unset, .unset, .unset, .unset, .unset, .unset, .unset, .unset, .unset, .unset, .unset, .unset]) rfl ?_
  refine WP.aload at_167 rfl rfl (pc' := 169) rfl ?_
  refine WP.iconst at_169 (z := (3 : Int32)) rfl (pc' := 170) rfl ?_
  refine WP.iload at_170 rfl (pc' := 172) rfl ?_
  refine WP.imul at_172 (pc' := 173) rfl ?_
  rw [show (((3 : Int32) * (3 : Int32)) : Int32) = (9 : Int32) from by decide]
  refine WP.iaload 9 at_173 A_b1 (x := (1 : Int32)) rfl rfl (pc' := 174) rfl ?_
  refine WP.istore at_174 (pc' := 176) rfl (ls' := #[.val (.int keys), .val (.int v0), .val (.int v1), .val (.int v2), .val (.int perm), .val (.int k0), .val (.int k1), .val (.int k2), .val (.int j), .val (.int (3 : Int32)), .val (.ref b1), .val (.ref b2), .val (.ref b3), .val (.int (1 : Int32)), .unset, .unset, .unset, .unset, .unset, .unset, .unset, .unset, .unset, .unset, .unset, .unset, .unset, .unset, .unset, .unset]) rfl ?_
  refine WP.aload at_176 rfl rfl (pc' := 178) rfl ?_
  refine WP.iconst at_178 (z := (3 : Int32)) rfl (pc' := 179) rfl ?_
  refine WP.iload at_179 rfl (pc' := 181) rfl ?_
  refine WP.imul at_181 (pc' := 182) rfl ?_
  rw [show (((3 : Int32) * (3 : Int32)) : Int32) = (9 : Int32) from by decide]
  refine WP.iconst at_182 (z := (1 : Int32)) rfl (pc' := 183) rfl ?_
  refine WP.iadd at_183 (pc' := 184) rfl ?_
  rw [show (((9 : Int32) + (1 : Int32)) : Int32) = (10 : Int32) from by decide]
  refine WP.iaload 10 at_184 A_b1 (x := (2 : Int32)) rfl rfl (pc' := 185) rfl ?_
  refine WP.istore at_185 (pc' := 187) rfl (ls' := #[.val (.int keys), .val (.int v0), .val (.int v1), .val (.int v2), .val (.int perm), .val (.int k0), .val (.int k1), .val (.int k2), .val (.int j), .val (.int (3 : Int32)), .val (.ref b1), .val (.ref b2), .val (.ref b3), .val (.int (1 : Int32)), .val (.int (2 : Int32)), .unset, .unset, .unset, .unset, .unset, .unset, .unset, .unset, .unset, .unset, .unset, .unset, .unset, .unset, .unset]) rfl ?_
  refine WP.aload at_187 rfl rfl (pc' := 189) rfl ?_
  refine WP.iconst at_189 (z := (3 : Int32)) rfl (pc' := 190) rfl ?_
  refine WP.iload at_190 rfl (pc' := 192) rfl ?_
  refine WP.imul at_192 (pc' := 193) rfl ?_
  rw [show (((3 : Int32) * (3 : Int32)) : Int32) = (9 : Int32) from by decide]
  refine WP.iconst at_193 (z := (2 : Int32)) rfl (pc' := 194) rfl ?_
  refine WP.iadd at_194 (pc' := 195) rfl ?_
  rw [show (((9 : Int32) + (2 : Int32)) : Int32) = (11 : Int32) from by decide]
  refine WP.iaload 11 at_195 A_b1 (x := (0 : Int32)) rfl rfl (pc' := 196) rfl ?_
  refine WP.istore at_196 (pc' := 198) rfl (ls' := #[.val (.int keys), .val (.int v0), .val (.int v1), .val (.int v2), .val (.int perm), .val (.int k0), .val (.int k1), .val (.int k2), .val (.int j), .val (.int (3 : Int32)), .val (.ref b1), .val (.ref b2), .val (.ref b3), .val (.int (1 : Int32)), .val (.int (2 : Int32)), .val (.int (0 : Int32)), .unset, .unset, .unset, .unset, .unset, .unset, .unset, .unset, .unset, .unset, .unset, .unset, .unset, .unset]) rfl ?_
  refine WP.aload at_198 rfl rfl (pc' := 200) rfl ?_
  refine WP.iload at_200 rfl (pc' := 202) rfl ?_
  refine WP.iaload 1 at_202 A_b2 (x := k1) rfl rfl (pc' := 203) rfl ?_
  refine WP.istore at_203 (pc' := 205) rfl (ls' := #[.val (.int keys), .val (.int v0), .val (.int v1), .val (.int v2), .val (.int perm), .val (.int k0), .val (.int k1), .val (.int k2), .val (.int j), .val (.int (3 : Int32)), .val (.ref b1), .val (.ref b2), .val (.ref b3), .val (.int (1 : Int32)), .val (.int (2 : Int32)), .val (.int (0 : Int32)), .val (.int k1), .unset, .unset, .unset, .unset, .unset, .unset, .unset, .unset, .unset, .unset, .unset, .unset, .unset]) rfl ?_
  refine WP.aload at_205 rfl rfl (pc' := 207) rfl ?_
  refine WP.iload at_207 rfl (pc' := 209) rfl ?_
  refine WP.iaload 2 at_209 A_b2 (x := k2) rfl rfl (pc' := 210) rfl ?_
  refine WP.istore at_210 (pc' := 212) rfl (ls' := #[.val (.int keys), .val (.int v0), .val (.int v1), .val (.int v2), .val (.int perm), .val (.int k0), .val (.int k1), .val (.int k2), .val (.int j), .val (.int (3 : Int32)), .val (.ref b1), .val (.ref b2), .val (.ref b3), .val (.int (1 : Int32)), .val (.int (2 : Int32)), .val (.int (0 : Int32)), .val (.int k1), .val (.int k2), .unset, .unset, .unset, .unset, .unset, .unset, .unset, .unset, .unset, .unset, .unset, .unset]) rfl ?_
  refine WP.aload at_212 rfl rfl (pc' := 214) rfl ?_
  refine WP.iload at_214 rfl (pc' := 216) rfl ?_
  refine WP.iaload 0 at_216 A_b2 (x := k0) rfl rfl (pc' := 217) rfl ?_
  refine WP.istore at_217 (pc' := 219) rfl (ls' := #[.val (.int keys), .val (.int v0), .val (.int v1), .val (.int v2), .val (.int perm), .val (.int k0), .val (.int k1), .val (.int k2), .val (.int j), .val (.int (3 : Int32)), .val (.ref b1), .val (.ref b2), .val (.ref b3), .val (.int (1 : Int32)), .val (.int (2 : Int32)), .val (.int (0 : Int32)), .val (.int k1), .val (.int k2), .val (.int k0), .unset, .unset, .unset, .unset, .unset, .unset, .unset, .unset, .unset, .unset, .unset]) rfl ?_
  refine WP.aload at_219 rfl rfl (pc' := 221) rfl ?_
  refine WP.iload at_221 rfl (pc' := 223) rfl ?_
  refine WP.iaload 1 at_223 A_b3 (x := v1) rfl rfl (pc' := 224) rfl ?_
  refine WP.istore at_224 (pc' := 226) rfl (ls' := #[.val (.int keys), .val (.int v0), .val (.int v1), .val (.int v2), .val (.int perm), .val (.int k0), .val (.int k1), .val (.int k2), .val (.int j), .val (.int (3 : Int32)), .val (.ref b1), .val (.ref b2), .val (.ref b3), .val (.int (1 : Int32)), .val (.int (2 : Int32)), .val (.int (0 : Int32)), .val (.int k1), .val (.int k2), .val (.int k0), .val (.int v1), .unset, .unset, .unset, .unset, .unset, .unset, .unset, .unset, .unset, .unset]) rfl ?_
  refine WP.aload at_226 rfl rfl (pc' := 228) rfl ?_
  refine WP.iload at_228 rfl (pc' := 230) rfl ?_
  refine WP.iaload 2 at_230 A_b3 (x := v2) rfl rfl (pc' := 231) rfl ?_
  refine WP.istore at_231 (pc' := 233) rfl (ls' := #[.val (.int keys), .val (.int v0), .val (.int v1), .val (.int v2), .val (.int perm), .val (.int k0), .val (.int k1), .val (.int k2), .val (.int j), .val (.int (3 : Int32)), .val (.ref b1), .val (.ref b2), .val (.ref b3), .val (.int (1 : Int32)), .val (.int (2 : Int32)), .val (.int (0 : Int32)), .val (.int k1), .val (.int k2), .val (.int k0), .val (.int v1), .val (.int v2), .unset, .unset, .unset, .unset, .unset, .unset, .unset, .unset, .unset]) rfl ?_
  refine WP.aload at_233 rfl rfl (pc' := 235) rfl ?_
  refine WP.iload at_235 rfl (pc' := 237) rfl ?_
  refine WP.iaload 0 at_237 A_b3 (x := v0) rfl rfl (pc' := 238) rfl ?_
  refine WP.istore at_238 (pc' := 240) rfl (ls' := #[.val (.int keys), .val (.int v0), .val (.int v1), .val (.int v2), .val (.int perm), .val (.int k0), .val (.int k1), .val (.int k2), .val (.int j), .val (.int (3 : Int32)), .val (.ref b1), .val (.ref b2), .val (.ref b3), .val (.int (1 : Int32)), .val (.int (2 : Int32)), .val (.int (0 : Int32)), .val (.int k1), .val (.int k2), .val (.int k0), .val (.int v1), .val (.int v2), .val (.int v0), .unset, .unset, .unset, .unset, .unset, .unset, .unset, .unset]) rfl ?_
  refine WP.iload at_240 rfl (pc' := 242) rfl ?_
  refine WP.iload at_242 rfl (pc' := 244) rfl ?_
  refine WP.iload at_244 rfl (pc' := 246) rfl ?_
  refine WP.iload at_246 rfl (pc' := 248) rfl ?_
  refine WP.callS (y := (⟨"com/example/stampwise/stampwise/history/IntGroupsPlacePinLaw", "below", "(IIII)I"⟩ : MethodName)) (By := B1) (as := [(.int k0), (.int k1), (.int k2), (.int k1)]) (rest := []) at_248 (w2 hw) (w3 hw) (w4 hw) (w5 hw) (by decide) (bel_met hw k0 k1 k2 k1 m0 m1 m2 m1 hk0 hk1 hk2 hk1) pd_0 rfl rfl rfl (by decide) (Nat.le_of_ble_eq_true rfl) (by decide) (by decide) (pc' := 251) rfl ?_
  rintro _ _ ⟨rfl, ea, rfl, hea⟩
  show WP _ _ _ _ _ _ _ _ _ _ [(.int ea)]
  refine WP.istore at_251 (pc' := 253) rfl (ls' := #[.val (.int keys), .val (.int v0), .val (.int v1), .val (.int v2), .val (.int perm), .val (.int k0), .val (.int k1), .val (.int k2), .val (.int j), .val (.int (3 : Int32)), .val (.ref b1), .val (.ref b2), .val (.ref b3), .val (.int (1 : Int32)), .val (.int (2 : Int32)), .val (.int (0 : Int32)), .val (.int k1), .val (.int k2), .val (.int k0), .val (.int v1), .val (.int v2), .val (.int v0), .val (.int ea), .unset, .unset, .unset, .unset, .unset, .unset, .unset]) rfl ?_
  refine WP.iload at_253 rfl (pc' := 255) rfl ?_
  refine WP.iload at_255 rfl (pc' := 257) rfl ?_
  refine WP.iload at_257 rfl (pc' := 259) rfl ?_
  refine WP.iload at_259 rfl (pc' := 261) rfl ?_
  refine WP.callS (y := (⟨"com/example/stampwise/stampwise/history/IntGroupsPlacePinLaw", "below", "(IIII)I"⟩ : MethodName)) (By := B1) (as := [(.int k0), (.int k1), (.int k2), (.int k2)]) (rest := []) at_261 (w2 hw) (w3 hw) (w4 hw) (w5 hw) (by decide) (bel_met hw k0 k1 k2 k2 m0 m1 m2 m2 hk0 hk1 hk2 hk2) pd_0 rfl rfl rfl (by decide) (Nat.le_of_ble_eq_true rfl) (by decide) (by decide) (pc' := 264) rfl ?_
  rintro _ _ ⟨rfl, r1, rfl, hr1⟩
  show WP _ _ _ _ _ _ _ _ _ _ [(.int r1)]
  refine WP.iload at_264 rfl (pc' := 266) rfl ?_
  refine WP.iload at_266 rfl (pc' := 268) rfl ?_
  refine WP.callS (y := (⟨"com/example/stampwise/stampwise/history/IntGroupsPlacePinLaw", "same", "(II)I"⟩ : MethodName)) (By := B2) (as := [(.int k1), (.int k2)]) (rest := [(.int r1)]) at_268 (w6 hw) (w7 hw) (w4 hw) (w8 hw) (by decide) (sam_met hw k1 k2 m1 m2 hk1 hk2) pd_1 rfl rfl rfl (by decide) (Nat.le_of_ble_eq_true rfl) (by decide) (by decide) (pc' := 271) rfl ?_
  rintro _ _ ⟨rfl, r2, rfl, hr2⟩
  show WP _ _ _ _ _ _ _ _ _ _ [(.int r2), (.int r1)]
  refine WP.iadd at_271 (pc' := 272) rfl ?_
  obtain ⟨eb, e_eb⟩ : ∃ z, z = (r1 + r2) := ⟨_, rfl⟩
  rw [← e_eb]
  refine WP.istore at_272 (pc' := 274) rfl (ls' := #[.val (.int keys), .val (.int v0), .val (.int v1), .val (.int v2), .val (.int perm), .val (.int k0), .val (.int k1), .val (.int k2), .val (.int j), .val (.int (3 : Int32)), .val (.ref b1), .val (.ref b2), .val (.ref b3), .val (.int (1 : Int32)), .val (.int (2 : Int32)), .val (.int (0 : Int32)), .val (.int k1), .val (.int k2), .val (.int k0), .val (.int v1), .val (.int v2), .val (.int v0), .val (.int ea), .val (.int eb), .unset, .unset, .unset, .unset, .unset, .unset]) rfl ?_
  refine WP.iload at_274 rfl (pc' := 276) rfl ?_
  refine WP.iload at_276 rfl (pc' := 278) rfl ?_
  refine WP.iload at_278 rfl (pc' := 280) rfl ?_
  refine WP.iload at_280 rfl (pc' := 282) rfl ?_
  refine WP.callS (y := (⟨"com/example/stampwise/stampwise/history/IntGroupsPlacePinLaw", "below", "(IIII)I"⟩ : MethodName)) (By := B1) (as := [(.int k0), (.int k1), (.int k2), (.int k0)]) (rest := []) at_282 (w2 hw) (w3 hw) (w4 hw) (w5 hw) (by decide) (bel_met hw k0 k1 k2 k0 m0 m1 m2 m0 hk0 hk1 hk2 hk0) pd_0 rfl rfl rfl (by decide) (Nat.le_of_ble_eq_true rfl) (by decide) (by decide) (pc' := 285) rfl ?_
  rintro _ _ ⟨rfl, r3, rfl, hr3⟩
  show WP _ _ _ _ _ _ _ _ _ _ [(.int r3)]
  refine WP.iload at_285 rfl (pc' := 287) rfl ?_
  refine WP.iload at_287 rfl (pc' := 289) rfl ?_
  refine WP.callS (y := (⟨"com/example/stampwise/stampwise/history/IntGroupsPlacePinLaw", "same", "(II)I"⟩ : MethodName)) (By := B2) (as := [(.int k1), (.int k0)]) (rest := [(.int r3)]) at_289 (w6 hw) (w7 hw) (w4 hw) (w8 hw) (by decide) (sam_met hw k1 k0 m1 m0 hk1 hk0) pd_1 rfl rfl rfl (by decide) (Nat.le_of_ble_eq_true rfl) (by decide) (by decide) (pc' := 292) rfl ?_
  rintro _ _ ⟨rfl, r4, rfl, hr4⟩
  show WP _ _ _ _ _ _ _ _ _ _ [(.int r4), (.int r3)]
  refine WP.iadd at_292 (pc' := 293) rfl ?_
  refine WP.iload at_293 rfl (pc' := 295) rfl ?_
  refine WP.iload at_295 rfl (pc' := 297) rfl ?_
  refine WP.callS (y := (⟨"com/example/stampwise/stampwise/history/IntGroupsPlacePinLaw", "same", "(II)I"⟩ : MethodName)) (By := B2) (as := [(.int k2), (.int k0)]) (rest := [(.int (r3 + r4))]) at_297 (w6 hw) (w7 hw) (w4 hw) (w8 hw) (by decide) (sam_met hw k2 k0 m2 m0 hk2 hk0) pd_1 rfl rfl rfl (by decide) (Nat.le_of_ble_eq_true rfl) (by decide) (by decide) (pc' := 300) rfl ?_
  rintro _ _ ⟨rfl, r5, rfl, hr5⟩
  show WP _ _ _ _ _ _ _ _ _ _ [(.int r5), (.int (r3 + r4))]
  refine WP.iadd at_300 (pc' := 301) rfl ?_
  obtain ⟨ec, e_ec⟩ : ∃ z, z = ((r3 + r4) + r5) := ⟨_, rfl⟩
  rw [← e_ec]
  refine WP.istore at_301 (pc' := 303) rfl (ls' := #[.val (.int keys), .val (.int v0), .val (.int v1), .val (.int v2), .val (.int perm), .val (.int k0), .val (.int k1), .val (.int k2), .val (.int j), .val (.int (3 : Int32)), .val (.ref b1), .val (.ref b2), .val (.ref b3), .val (.int (1 : Int32)), .val (.int (2 : Int32)), .val (.int (0 : Int32)), .val (.int k1), .val (.int k2), .val (.int k0), .val (.int v1), .val (.int v2), .val (.int v0), .val (.int ea), .val (.int eb), .val (.int ec), .unset, .unset, .unset, .unset, .unset]) rfl ?_
  have bb (a b d k : Nat) : bel a b d k ≤ 3 := by simp only [bel]; split <;> split <;> split <;> omega
  have ss (a b : Nat) : sam a b ≤ 1 := by simp only [sam]; split <;> omega
  have y1 := bb m0 m1 m2 m2
  have y2 := ss m1 m2
  have y3 := bb m0 m1 m2 m0
  have y4 := ss m1 m0
  have y5 := ss m2 m0
  have feb : eb.toInt = ((bel m0 m1 m2 m2 + sam m1 m2 : Nat) : Int) := by rw [e_eb, own_iadd] <;> omega
  have fe1 : (r3 + r4).toInt = r3.toInt + r4.toInt := by rw [own_iadd] <;> omega
  have fec : ec.toInt = ((bel m0 m1 m2 m0 + sam m1 m0 + sam m2 m0 : Nat) : Int) := by rw [e_ec, own_iadd] <;> omega
  obtain ⟨⟨p1, p2, p3, p4, p5, p6, p7, p8, p9, p10, p11, p12, p13⟩, pj⟩ := pure_3 ⟨m0, l0⟩ ⟨m1, l1⟩ ⟨m2, l2⟩
  obtain ⟨pj1, pj2⟩ := pj ⟨mj, lj⟩
  simp only at p1 p2 p3 p4 p5 p6 p7 p8 p9 p10 p11 p12 p13 pj1 pj2
  clear bb ss y1 y2 y3 y4 y5 fe1
  refine WP.newobj (lay := L_IG) (vs := [.null, .null]) at_303 (w9 hw) (w10 hw) (w11 hw) (lay_IG hw) rfl (by decide) (by decide) (pc' := 306) rfl ?_
  intro g h61 eb_g g_g K62 O_g
  have lt_b1_g : b1 < g := by rw [eb_g]; exact A_b1.lt
  have lt_b2_g : b2 < g := by rw [eb_g]; exact A_b2.lt
  have lt_b3_g : b3 < g := by rw [eb_g]; exact A_b3.lt
  replace A_b1 := A_b1.keep K62 own_nil
  replace A_b2 := A_b2.keep K62 own_nil
  replace A_b3 := A_b3.keep K62 own_nil
  refine WP.dup at_306 rfl (pc' := 307) rfl ?_
  refine WP.iconst at_307 (z := (4 : Int32)) rfl (pc' := 308) rfl ?_
  refine WP.callI (a := g) (y := (⟨"com/example/stampwise/stampwise/history/IntGroups", "<init>", "(I)V"⟩ : MethodName)) (By := B3) (as := [(.int (4 : Int32))]) (rest := [(.ref g)]) at_308 (w12 hw) (w13 hw) (w11 hw) (w14 hw) rfl rfl (by decide) (ini_met hw g g_g O_g) pd_2 rfl rfl rfl (by decide) (Nat.le_of_ble_eq_true rfl) (by decide) (by decide) (pc' := 311) rfl ?_
  rintro _ h63 ⟨rfl, hI⟩
  show WP _ _ _ _ _ _ _ _ _ _ [(.ref g)]
  refine WP.astore at_311 (pc' := 313) rfl rfl (ls' := #[.val (.int keys), .val (.int v0), .val (.int v1), .val (.int v2), .val (.int perm), .val (.int k0), .val (.int k1), .val (.int k2), .val (.int j), .val (.int (3 : Int32)), .val (.ref b1), .val (.ref b2), .val (.ref b3), .val (.int (1 : Int32)), .val (.int (2 : Int32)), .val (.int (0 : Int32)), .val (.int k1), .val (.int k2), .val (.int k0), .val (.int v1), .val (.int v2), .val (.int v0), .val (.int ea), .val (.int eb), .val (.int ec), .val (.ref g), .unset, .unset, .unset, .unset]) rfl ?_
  refine WP.aload at_313 rfl rfl (pc' := 315) rfl ?_
  refine WP.iload at_315 rfl (pc' := 317) rfl ?_
  refine WP.callV (a := g) (z := (⟨"com/example/stampwise/stampwise/history/IntGroups", "count", "(I)V"⟩ : MethodName)) (Cl := "com/example/stampwise/stampwise/history/IntGroups") (y := (⟨"com/example/stampwise/stampwise/history/IntGroups", "count", "(I)V"⟩ : MethodName)) (By := B5) (as := [(.int k0)]) (rest := []) at_317 (w20 hw) (w21 hw) (w23 hw) (w22 hw) (w11 hw) (w24 hw) rfl rfl (by decide) hI.exa (cou_met hw g k0 m0 _ hI hk0 l0 p1) pd_2 rfl rfl rfl (by decide) (Nat.le_of_ble_eq_true rfl) (by decide) (by decide) (pc' := 320) rfl ?_
  rintro _ h64 ⟨rfl, hI⟩
  show WP _ _ _ _ _ _ _ _ _ _ []
  refine WP.aload at_320 rfl rfl (pc' := 322) rfl ?_
  refine WP.iload at_322 rfl (pc' := 324) rfl ?_
  refine WP.callV (a := g) (z := (⟨"com/example/stampwise/stampwise/history/IntGroups", "count", "(I)V"⟩ : MethodName)) (Cl := "com/example/stampwise/stampwise/history/IntGroups") (y := (⟨"com/example/stampwise/stampwise/history/IntGroups", "count", "(I)V"⟩ : MethodName)) (By := B5) (as := [(.int k1)]) (rest := []) at_324 (w20 hw) (w21 hw) (w23 hw) (w22 hw) (w11 hw) (w24 hw) rfl rfl (by decide) hI.exa (cou_met hw g k1 m1 _ hI hk1 l1 p2) pd_2 rfl rfl rfl (by decide) (Nat.le_of_ble_eq_true rfl) (by decide) (by decide) (pc' := 327) rfl ?_
  rintro _ h65 ⟨rfl, hI⟩
  show WP _ _ _ _ _ _ _ _ _ _ []
  refine WP.aload at_327 rfl rfl (pc' := 329) rfl ?_
  refine WP.iload at_329 rfl (pc' := 331) rfl ?_
  refine WP.callV (a := g) (z := (⟨"com/example/stampwise/stampwise/history/IntGroups", "count", "(I)V"⟩ : MethodName)) (Cl := "com/example/stampwise/stampwise/history/IntGroups") (y := (⟨"com/example/stampwise/stampwise/history/IntGroups", "count", "(I)V"⟩ : MethodName)) (By := B5) (as := [(.int k2)]) (rest := []) at_331 (w20 hw) (w21 hw) (w23 hw) (w22 hw) (w11 hw) (w24 hw) rfl rfl (by decide) hI.exa (cou_met hw g k2 m2 _ hI hk2 l2 p3) pd_2 rfl rfl rfl (by decide) (Nat.le_of_ble_eq_true rfl) (by decide) (by decide) (pc' := 334) rfl ?_
  rintro _ h66 ⟨rfl, hI⟩
  show WP _ _ _ _ _ _ _ _ _ _ []
  refine WP.aload at_334 rfl rfl (pc' := 336) rfl ?_
  refine WP.callV (a := g) (z := (⟨"com/example/stampwise/stampwise/history/IntGroups", "startPlacing", "()V"⟩ : MethodName)) (Cl := "com/example/stampwise/stampwise/history/IntGroups") (y := (⟨"com/example/stampwise/stampwise/history/IntGroups", "startPlacing", "()V"⟩ : MethodName)) (By := B6) (as := []) (rest := []) at_336 (w25 hw) (w26 hw) (w28 hw) (w27 hw) (w11 hw) (w29 hw) rfl rfl (by decide) hI.exa (stp_met hw g _ hI p4) pd_3 rfl rfl rfl (by decide) (Nat.le_of_ble_eq_true rfl) (by decide) (by decide) (pc' := 339) rfl ?_
  rintro _ h67 ⟨rfl, hI⟩
  show WP _ _ _ _ _ _ _ _ _ _ []
  refine WP.aload at_339 rfl rfl (pc' := 341) rfl ?_
  refine WP.iload at_341 rfl (pc' := 343) rfl ?_
  refine WP.iload at_343 rfl (pc' := 345) rfl ?_
  refine WP.callV (a := g) (z := (⟨"com/example/stampwise/stampwise/history/IntGroups", "place", "(II)I"⟩ : MethodName)) (Cl := "com/example/stampwise/stampwise/history/IntGroups") (y := (⟨"com/example/stampwise/stampwise/history/IntGroups", "place", "(II)I"⟩ : MethodName)) (By := B7) (as := [(.int k1), (.int v1)]) (rest := []) at_345 (w36 hw) (w37 hw) (w39 hw) (w38 hw) (w11 hw) (w40 hw) rfl rfl (by decide) hI.exa (plc_met hw g k1 v1 m1 _ _ hI hk1 l1 (by omega) (by simpa using p5)) pd_1 rfl rfl rfl (by decide) (Nat.le_of_ble_eq_true rfl) (by decide) (by decide) (pc' := 348) rfl ?_
  rintro _ h68 ⟨ra, rfl, hra, hI⟩
  show WP _ _ _ _ _ _ _ _ _ _ [(.int ra)]
  refine WP.istore at_348 (pc' := 350) rfl (ls' := #[.val (.int keys), .val (.int v0), .val (.int v1), .val (.int v2), .val (.int perm), .val (.int k0), .val (.int k1), .val (.int k2), .val (.int j), .val (.int (3 : Int32)), .val (.ref b1), .val (.ref b2), .val (.ref b3), .val (.int (1 : Int32)), .val (.int (2 : Int32)), .val (.int (0 : Int32)), .val (.int k1), .val (.int k2), .val (.int k0), .val (.int v1), .val (.int v2), .val (.int v0), .val (.int ea), .val (.int eb), .val (.int ec), .val (.ref g), .val (.int ra), .unset, .unset, .unset]) rfl ?_
  refine WP.aload at_350 rfl rfl (pc' := 352) rfl ?_
  refine WP.iload at_352 rfl (pc' := 354) rfl ?_
  refine WP.iload at_354 rfl (pc' := 356) rfl ?_
  refine WP.callV (a := g) (z := (⟨"com/example/stampwise/stampwise/history/IntGroups", "place", "(II)I"⟩ : MethodName)) (Cl := "com/example/stampwise/stampwise/history/IntGroups") (y := (⟨"com/example/stampwise/stampwise/history/IntGroups", "place", "(II)I"⟩ : MethodName)) (By := B7) (as := [(.int k2), (.int v2)]) (rest := []) at_356 (w36 hw) (w37 hw) (w39 hw) (w38 hw) (w11 hw) (w40 hw) rfl rfl (by decide) hI.exa (plc_met hw g k2 v2 m2 _ _ hI hk2 l2 (by omega) (by simpa using p6)) pd_1 rfl rfl rfl (by decide) (Nat.le_of_ble_eq_true rfl) (by decide) (by decide) (pc' := 359) rfl ?_
  rintro _ h69 ⟨rb, rfl, hrb, hI⟩
  show WP _ _ _ _ _ _ _ _ _ _ [(.int rb)]
  refine WP.istore at_359 (pc' := 361) rfl (ls' := #[.val (.int keys), .val (.int v0), .val (.int v1), .val (.int v2), .val (.int perm), .val (.int k0), .val (.int k1), .val (.int k2), .val (.int j), .val (.int (3 : Int32)), .val (.ref b1), .val (.ref b2), .val (.ref b3), .val (.int (1 : Int32)), .val (.int (2 : Int32)), .val (.int (0 : Int32)), .val (.int k1), .val (.int k2), .val (.int k0), .val (.int v1), .val (.int v2), .val (.int v0), .val (.int ea), .val (.int eb), .val (.int ec), .val (.ref g), .val (.int ra), .val (.int rb), .unset, .unset]) rfl ?_
  refine WP.aload at_361 rfl rfl (pc' := 363) rfl ?_
  refine WP.iload at_363 rfl (pc' := 365) rfl ?_
  refine WP.iload at_365 rfl (pc' := 367) rfl ?_
  refine WP.callV (a := g) (z := (⟨"com/example/stampwise/stampwise/history/IntGroups", "place", "(II)I"⟩ : MethodName)) (Cl := "com/example/stampwise/stampwise/history/IntGroups") (y := (⟨"com/example/stampwise/stampwise/history/IntGroups", "place", "(II)I"⟩ : MethodName)) (By := B7) (as := [(.int k0), (.int v0)]) (rest := []) at_367 (w36 hw) (w37 hw) (w39 hw) (w38 hw) (w11 hw) (w40 hw) rfl rfl (by decide) hI.exa (plc_met hw g k0 v0 m0 _ _ hI hk0 l0 (by omega) (by simpa using p7)) pd_1 rfl rfl rfl (by decide) (Nat.le_of_ble_eq_true rfl) (by decide) (by decide) (pc' := 370) rfl ?_
  rintro _ h70 ⟨rc, rfl, hrc, hI⟩
  show WP _ _ _ _ _ _ _ _ _ _ [(.int rc)]
  refine WP.istore at_370 (pc' := 372) rfl (ls' := #[.val (.int keys), .val (.int v0), .val (.int v1), .val (.int v2), .val (.int perm), .val (.int k0), .val (.int k1), .val (.int k2), .val (.int j), .val (.int (3 : Int32)), .val (.ref b1), .val (.ref b2), .val (.ref b3), .val (.int (1 : Int32)), .val (.int (2 : Int32)), .val (.int (0 : Int32)), .val (.int k1), .val (.int k2), .val (.int k0), .val (.int v1), .val (.int v2), .val (.int v0), .val (.int ea), .val (.int eb), .val (.int ec), .val (.ref g), .val (.int ra), .val (.int rb), .val (.int rc), .unset]) rfl ?_
  refine WP.iload at_372 rfl (pc' := 374) rfl ?_
  refine WP.iload at_374 rfl (pc' := 376) rfl ?_
  refine WP.icmpNe at_376 (tgt := 393) (by decide) (pc' := 379) rfl (fun c376 => ?_) (fun c376 => ?_)
  · exfalso; omega
  refine WP.iload at_379 rfl (pc' := 381) rfl ?_
  refine WP.iload at_381 rfl (pc' := 383) rfl ?_
  refine WP.icmpNe at_383 (tgt := 393) (by decide) (pc' := 386) rfl (fun c383 => ?_) (fun c383 => ?_)
  · exfalso; omega
  refine WP.iload at_386 rfl (pc' := 388) rfl ?_
  refine WP.iload at_388 rfl (pc' := 390) rfl ?_
  refine WP.icmpEq at_390 (tgt := 395) (by decide) (pc' := 393) rfl (fun c390 => ?_) (fun c390 => ?_)
  ·
    refine WP.aload at_395 rfl rfl (pc' := 397) rfl ?_
    refine WP.callV (a := g) (z := (⟨"com/example/stampwise/stampwise/history/IntGroups", "values", "()[I"⟩ : MethodName)) (Cl := "com/example/stampwise/stampwise/history/IntGroups") (y := (⟨"com/example/stampwise/stampwise/history/IntGroups", "values", "()[I"⟩ : MethodName)) (By := B8) (as := []) (rest := []) at_397 (w41 hw) (w42 hw) (w44 hw) (w43 hw) (w11 hw) (w45 hw) rfl rfl (by decide) hI.exa (vls_met hw g _ _ hI) pd_4 rfl rfl rfl (by decide) (Nat.le_of_ble_eq_true rfl) (by decide) (by decide) (pc' := 400) rfl ?_
    rintro _ h71 ⟨wa, rfl, A_wa, hI⟩
    show WP _ _ _ _ _ _ _ _ _ _ [(.ref wa)]
    refine WP.astore at_400 (pc' := 402) rfl rfl (ls' := #[.val (.int keys), .val (.int v0), .val (.int v1), .val (.int v2), .val (.int perm), .val (.int k0), .val (.int k1), .val (.int k2), .val (.int j), .val (.int (3 : Int32)), .val (.ref b1), .val (.ref b2), .val (.ref b3), .val (.int (1 : Int32)), .val (.int (2 : Int32)), .val (.int (0 : Int32)), .val (.int k1), .val (.int k2), .val (.int k0), .val (.int v1), .val (.int v2), .val (.int v0), .val (.int ea), .val (.int eb), .val (.int ec), .val (.ref g), .val (.int ra), .val (.int rb), .val (.int rc), .val (.ref wa)]) rfl ?_
    refine WP.aload at_402 rfl rfl (pc' := 404) rfl ?_
    refine WP.ifnullN at_404 (pc' := 407) rfl ?_
    refine WP.aload at_407 rfl rfl (pc' := 409) rfl ?_
    refine WP.alen at_409 A_wa (k := (3 : Int32)) (by simp) (pc' := 410) rfl ?_
    refine WP.iconst at_410 (z := (3 : Int32)) rfl (pc' := 411) rfl ?_
    refine WP.icmpEq at_411 (tgt := 416) (by decide) (pc' := 414) rfl (fun c411 => ?_) (fun c411 => ?_)
    ·
      obtain ⟨na, hna⟩ : ∃ z, z = (sp (cnt (cnt (cnt [0, 0, 0, 0, 0] m0) m1) m2)).getD (m1 + 1) 0 := ⟨_, rfl⟩
      obtain ⟨nb, hnb⟩ : ∃ z, z = (cnt (sp (cnt (cnt (cnt [0, 0, 0, 0, 0] m0) m1) m2)) m1).getD (m2 + 1) 0 := ⟨_, rfl⟩
      obtain ⟨nc, hnc⟩ : ∃ z, z = (cnt (cnt (sp (cnt (cnt (cnt [0, 0, 0, 0, 0] m0) m1) m2)) m1) m2).getD (m0 + 1) 0 := ⟨_, rfl⟩
      rw [← hna] at A_wa p5 p8 p11 p12
      rw [← hnb] at A_wa p6 p9 p11 p13
      rw [← hnc] at A_wa p7 p10 p12 p13
      refine WP.aload at_416 rfl rfl (pc' := 418) rfl ?_
      refine WP.iload at_418 rfl (pc' := 420) rfl ?_
      refine WP.iaload na at_420 A_wa (x := v1) (by omega) (by rw [List.getElem?_set_ne (by omega), List.getElem?_set_ne (by omega), List.getElem?_set_self (by simpa using p5)]) (pc' := 421) rfl ?_
      refine WP.iload at_421 rfl (pc' := 423) rfl ?_
      refine WP.icmpNe at_423 (tgt := 446) (by decide) (pc' := 426) rfl (fun c423 => ?_) (fun c423 => ?_)
      · exfalso; omega
      refine WP.aload at_426 rfl rfl (pc' := 428) rfl ?_
      refine WP.iload at_428 rfl (pc' := 430) rfl ?_
      refine WP.iaload nb at_430 A_wa (x := v2) (by omega) (by rw [List.getElem?_set_ne (by omega), List.getElem?_set_self (by simpa using p6)]) (pc' := 431) rfl ?_
      refine WP.iload at_431 rfl (pc' := 433) rfl ?_
      refine WP.icmpNe at_433 (tgt := 446) (by decide) (pc' := 436) rfl (fun c433 => ?_) (fun c433 => ?_)
      · exfalso; omega
      refine WP.aload at_436 rfl rfl (pc' := 438) rfl ?_
      refine WP.iload at_438 rfl (pc' := 440) rfl ?_
      refine WP.iaload nc at_440 A_wa (x := v0) (by omega) (by rw [List.getElem?_set_self (by simpa using p7)]) (pc' := 441) rfl ?_
      refine WP.iload at_441 rfl (pc' := 443) rfl ?_
      refine WP.icmpEq at_443 (tgt := 448) (by decide) (pc' := 446) rfl (fun c443 => ?_) (fun c443 => ?_)
      ·
        refine WP.aload at_448 rfl rfl (pc' := 450) rfl ?_
        refine WP.iload at_450 rfl (pc' := 452) rfl ?_
        refine WP.callV (a := g) (z := (⟨"com/example/stampwise/stampwise/history/IntGroups", "start", "(I)I"⟩ : MethodName)) (Cl := "com/example/stampwise/stampwise/history/IntGroups") (y := (⟨"com/example/stampwise/stampwise/history/IntGroups", "start", "(I)I"⟩ : MethodName)) (By := B9) (as := [(.int j)]) (rest := []) at_452 (w46 hw) (w47 hw) (w49 hw) (w48 hw) (w11 hw) (w50 hw) rfl rfl (by decide) hI.exa (sta_met hw g j mj _ _ hI hj lj pj2) pd_5 rfl rfl rfl (by decide) (Nat.le_of_ble_eq_true rfl) (by decide) (by decide) (pc' := 455) rfl ?_
        rintro _ h72 ⟨rs, rfl, hrs⟩
        show WP _ _ _ _ _ _ _ _ _ _ [(.int rs)]
        refine WP.iload at_455 rfl (pc' := 457) rfl ?_
        refine WP.iload at_457 rfl (pc' := 459) rfl ?_
        refine WP.iload at_459 rfl (pc' := 461) rfl ?_
        refine WP.iload at_461 rfl (pc' := 463) rfl ?_
        refine WP.callS (y := (⟨"com/example/stampwise/stampwise/history/IntGroupsPlacePinLaw", "below", "(IIII)I"⟩ : MethodName)) (By := B1) (as := [(.int k0), (.int k1), (.int k2), (.int j)]) (rest := [(.int rs)]) at_463 (w2 hw) (w3 hw) (w4 hw) (w5 hw) (by decide) (bel_met hw k0 k1 k2 j m0 m1 m2 mj hk0 hk1 hk2 hj) pd_0 rfl rfl rfl (by decide) (Nat.le_of_ble_eq_true rfl) (by decide) (by decide) (pc' := 466) rfl ?_
        rintro _ _ ⟨rfl, rb2, rfl, hrb2⟩
        show WP _ _ _ _ _ _ _ _ _ _ [(.int rb2), (.int rs)]
        refine WP.icmpNe at_466 (tgt := 473) (by decide) (pc' := 469) rfl (fun c466 => ?_) (fun c466 => ?_)
        ·
          refine WP.iconst at_473 (z := (0 : Int32)) rfl (pc' := 474) rfl ?_
          exact WP.retN at_474 (t := .boolean) rfl (by simp) (by decide) (by decide) (by exfalso; omega)
        refine WP.iconst at_469 (z := (1 : Int32)) rfl (pc' := 470) rfl ?_
        refine WP.goto at_470 (pc' := 474) (by decide) ?_
        exact WP.retN at_474 (t := .boolean) rfl (by simp) (by decide) (by decide) own_q1
      exfalso; omega
    exfalso; omega
  exfalso; omega
theorem law_40_4 {l : Launch} {Z : State} {a0 : Array Value} (hw : HW Z a0) {n0 : Nat} {h : Heap} (keys v0 v1 v2 perm k0 k1 k2 j : Int32) (m0 m1 m2 mj : Nat) (hk0 : k0.toInt = (m0 : Int)) (hk1 : k1.toInt = (m1 : Int)) (hk2 : k2.toInt = (m2 : Int)) (hj : j.toInt = (mj : Int)) (l0 : m0 < 4) (l1 : m1 < 4) (l2 : m2 < 4) (lj : mj < 5) : WP l B0 Z n0 (fun v h' => v = some (.int 1)) h 0 0 40 #[.val (.int keys), .val (.int v0), .val (.int v1), .val (.int v2), .val (.int perm), .val (.int k0), .val (.int k1), .val (.int k2), .val (.int j), .val (.int (4 : Int32)), .unset, .unset, .unset, .unset, .unset, .unset, .unset, .unset, .unset, .unset, .unset, .unset, .unset, .unset, .unset, .unset, .unset, .unset, .unset, .unset] [] := by
  have k32_0 : (0 : Int32).toInt = 0 := by decide
  have k32_1 : (1 : Int32).toInt = 1 := by decide
  have k32_2 : (2 : Int32).toInt = 2 := by decide
  have k32_3 : (3 : Int32).toInt = 3 := by decide
  have k32_4 : (4 : Int32).toInt = 4 := by decide
  have k32_5 : (5 : Int32).toInt = 5 := by decide
  have k32_6 : (6 : Int32).toInt = 6 := by decide
  have k32_7 : (7 : Int32).toInt = 7 := by decide
  have k32_8 : (8 : Int32).toInt = 8 := by decide
  have k32_9 : (9 : Int32).toInt = 9 := by decide
  have k32_10 : (10 : Int32).toInt = 10 := by decide
  have k32_11 : (11 : Int32).toInt = 11 := by decide
  have k32_12 : (12 : Int32).toInt = 12 := by decide
  have k32_13 : (13 : Int32).toInt = 13 := by decide
  have k32_14 : (14 : Int32).toInt = 14 := by decide
  have k32_15 : (15 : Int32).toInt = 15 := by decide
  have k32_16 : (16 : Int32).toInt = 16 := by decide
  have k32_17 : (17 : Int32).toInt = 17 := by decide
  have k32_18 : (18 : Int32).toInt = 18 := by decide
  refine WP.bipush at_40 (z := (18 : Int32)) rfl (pc' := 42) rfl ?_
  refine WP.newarr at_42 (w1 hw) (k := 18) rfl 18 (by decide) (by decide) (by decide) (by decide) (pc' := 44) rfl ?_
  intro b1 h1 eb_b1 g_b1 K2 A_b1
  replace A_b1 : Av Z h1 b1 .int [.int 0, .int 0, .int 0, .int 0, .int 0, .int 0, .int 0, .int 0, .int 0, .int 0, .int 0, .int 0, .int 0, .int 0, .int 0, .int 0, .int 0, .int 0] := A_b1
  refine WP.dup at_44 rfl (pc' := 45) rfl ?_
  refine WP.iconst at_45 (z := (0 : Int32)) rfl (pc' := 46) rfl ?_
  refine WP.iconst at_46 (z := (0 : Int32)) rfl (pc' := 47) rfl ?_
  refine WP.iastore 0 at_47 A_b1 rfl (Nat.le_of_ble_eq_true rfl) g_b1 (pc' := 48) rfl ?_
  intro h3 K4 A_n
  replace A_b1 : Av Z h3 b1 .int [(.int (0 : Int32)), (.int 0), (.int 0), (.int 0), (.int 0), (.int 0), (.int 0), (.int 0), (.int 0), (.int 0), (.int 0), (.int 0), (.int 0), (.int 0), (.int 0), (.int 0), (.int 0), (.int 0)] := A_n
  clear A_n
  refine WP.dup at_48 rfl (pc' := 49) rfl ?_
  refine WP.iconst at_49 (z := (1 : Int32)) rfl (pc' := 50) rfl ?_
  refine WP.iconst at_50 (z := (1 : Int32)) rfl (pc' := 51) rfl ?_
  refine WP.iastore 1 at_51 A_b1 rfl (Nat.le_of_ble_eq_true rfl) g_b1 (pc' := 52) rfl ?_
  intro h5 K6 A_n
  replace A_b1 : Av Z h5 b1 .int [(.int (0 : Int32)), (.int (1 : Int32)), (.int 0), (.int 0), (.int 0), (.int 0), (.int 0), (.int 0), (.int 0), (.int 0), (.int 0), (.int 0), (.int 0), (.int 0), (.int 0), (.int 0), (.int 0), (.int 0)] := A_n
  clear A_n
  refine WP.dup at_52 rfl (pc' := 53) rfl ?_
  refine WP.iconst at_53 (z := (2 : Int32)) rfl (pc' := 54) rfl ?_
  refine WP.iconst at_54 (z := (2 : Int32)) rfl (pc' := 55) rfl ?_
  refine WP.iastore 2 at_55 A_b1 rfl (Nat.le_of_ble_eq_true rfl) g_b1 (pc' := 56) rfl ?_
  intro h7 K8 A_n
  replace A_b1 : Av Z h7 b1 .int [(.int (0 : Int32)), (.int (1 : Int32)), (.int (2 : Int32)), (.int 0), (.int 0), (.int 0), (.int 0), (.int 0), (.int 0), (.int 0), (.int 0), (.int 0), (.int 0), (.int 0), (.int 0), (.int 0), (.int 0), (.int 0)] := A_n
  clear A_n
  refine WP.dup at_56 rfl (pc' := 57) rfl ?_
  refine WP.iconst at_57 (z := (3 : Int32)) rfl (pc' := 58) rfl ?_
  refine WP.iconst at_58 (z := (0 : Int32)) rfl (pc' := 59) rfl ?_
  refine WP.iastore 3 at_59 A_b1 rfl (Nat.le_of_ble_eq_true rfl) g_b1 (pc' := 60) rfl ?_
  intro h9 K10 A_n
  replace A_b1 : Av Z h9 b1 .int [(.int (0 : Int32)), (.int (1 : Int32)), (.int (2 : Int32)), (.int (0 : Int32)), (.int 0), (.int 0), (.int 0), (.int 0), (.int 0), (.int 0), (.int 0), (.int 0), (.int 0), (.int 0), (.int 0), (.int 0), (.int 0), (.int 0)] := A_n
  clear A_n
  refine WP.dup at_60 rfl (pc' := 61) rfl ?_
  refine WP.iconst at_61 (z := (4 : Int32)) rfl (pc' := 62) rfl ?_
  refine WP.iconst at_62 (z := (2 : Int32)) rfl (pc' := 63) rfl ?_
  refine WP.iastore 4 at_63 A_b1 rfl (Nat.le_of_ble_eq_true rfl) g_b1 (pc' := 64) rfl ?_
  intro h11 K12 A_n
  replace A_b1 : Av Z h11 b1 .int [(.int (0 : Int32)), (.int (1 : Int32)), (.int (2 : Int32)), (.int (0 : Int32)), (.int (2 : Int32)), (.int 0), (.int 0), (.int 0), (.int 0), (.int 0), (.int 0), (.int 0), (.int 0), (.int 0), (.int 0), (.int 0), (.int 0), (.int 0)] := A_n
  clear A_n
  refine WP.dup at_64 rfl (pc' := 65) rfl ?_
  refine WP.iconst at_65 (z := (5 : Int32)) rfl (pc' := 66) rfl ?_
  refine WP.iconst at_66 (z := (1 : Int32)) rfl (pc' := 67) rfl ?_
  refine WP.iastore 5 at_67 A_b1 rfl (Nat.le_of_ble_eq_true rfl) g_b1 (pc' := 68) rfl ?_
  intro h13 K14 A_n
  replace A_b1 : Av Z h13 b1 .int [(.int (0 : Int32)), (.int (1 : Int32)), (.int (2 : Int32)), (.int (0 : Int32)), (.int (2 : Int32)), (.int (1 : Int32)), (.int 0), (.int 0), (.int 0), (.int 0), (.int 0), (.int 0), (.int 0), (.int 0), (.int 0), (.int 0), (.int 0), (.int 0)] := A_n
  clear A_n
  refine WP.dup at_68 rfl (pc' := 69) rfl ?_
  refine WP.bipush at_69 (z := (6 : Int32)) rfl (pc' := 71) rfl ?_
  refine WP.iconst at_71 (z := (1 : Int32)) rfl (pc' := 72) rfl ?_
  refine WP.iastore 6 at_72 A_b1 rfl (Nat.le_of_ble_eq_true rfl) g_b1 (pc' := 73) rfl ?_
  intro h15 K16 A_n
  replace A_b1 : Av Z h15 b1 .int [(.int (0 : Int32)), (.int (1 : Int32)), (.int (2 : Int32)), (.int (0 : Int32)), (.int (2 : Int32)), (.int (1 : Int32)), (.int (1 : Int32)), (.int 0), (.int 0), (.int 0), (.int 0), (.int 0), (.int 0), (.int 0), (.int 0), (.int 0), (.int 0), (.int 0)] := A_n
  clear A_n
  refine WP.dup at_73 rfl (pc' := 74) rfl ?_
  refine WP.bipush at_74 (z := (7 : Int32)) rfl (pc' := 76) rfl ?_
  refine WP.iconst at_76 (z := (0 : Int32)) rfl (pc' := 77) rfl ?_
  refine WP.iastore 7 at_77 A_b1 rfl (Nat.le_of_ble_eq_true rfl) g_b1 (pc' := 78) rfl ?_
  intro h17 K18 A_n
  replace A_b1 : Av Z h17 b1 .int [(.int (0 : Int32)), (.int (1 : Int32)), (.int (2 : Int32)), (.int (0 : Int32)), (.int (2 : Int32)), (.int (1 : Int32)), (.int (1 : Int32)), (.int (0 : Int32)), (.int 0), (.int 0), (.int 0), (.int 0), (.int 0), (.int 0), (.int 0), (.int 0), (.int 0), (.int 0)] := A_n
  clear A_n
  refine WP.dup at_78 rfl (pc' := 79) rfl ?_
  refine WP.bipush at_79 (z := (8 : Int32)) rfl (pc' := 81) rfl ?_
  refine WP.iconst at_81 (z := (2 : Int32)) rfl (pc' := 82) rfl ?_
  refine WP.iastore 8 at_82 A_b1 rfl (Nat.le_of_ble_eq_true rfl) g_b1 (pc' := 83) rfl ?_
  intro h19 K20 A_n
  replace A_b1 : Av Z h19 b1 .int [(.int (0 : Int32)), (.int (1 : Int32)), (.int (2 : Int32)), (.int (0 : Int32)), (.int (2 : Int32)), (.int (1 : Int32)), (.int (1 : Int32)), (.int (0 : Int32)), (.int (2 : Int32)), (.int 0), (.int 0), (.int 0), (.int 0), (.int 0), (.int 0), (.int 0), (.int 0), (.int 0)] := A_n
  clear A_n
  refine WP.dup at_83 rfl (pc' := 84) rfl ?_
  refine WP.bipush at_84 (z := (9 : Int32)) rfl (pc' := 86) rfl ?_
  refine WP.iconst at_86 (z := (1 : Int32)) rfl (pc' := 87) rfl ?_
  refine WP.iastore 9 at_87 A_b1 rfl (Nat.le_of_ble_eq_true rfl) g_b1 (pc' := 88) rfl ?_
  intro h21 K22 A_n
  replace A_b1 : Av Z h21 b1 .int [(.int (0 : Int32)), (.int (1 : Int32)), (.int (2 : Int32)), (.int (0 : Int32)), (.int (2 : Int32)), (.int (1 : Int32)), (.int (1 : Int32)), (.int (0 : Int32)), (.int (2 : Int32)), (.int (1 : Int32)), (.int 0), (.int 0), (.int 0), (.int 0), (.int 0), (.int 0), (.int 0), (.int 0)] := A_n
  clear A_n
  refine WP.dup at_88 rfl (pc' := 89) rfl ?_
  refine WP.bipush at_89 (z := (10 : Int32)) rfl (pc' := 91) rfl ?_
  refine WP.iconst at_91 (z := (2 : Int32)) rfl (pc' := 92) rfl ?_
  refine WP.iastore 10 at_92 A_b1 rfl (Nat.le_of_ble_eq_true rfl) g_b1 (pc' := 93) rfl ?_
  intro h23 K24 A_n
  replace A_b1 : Av Z h23 b1 .int [(.int (0 : Int32)), (.int (1 : Int32)), (.int (2 : Int32)), (.int (0 : Int32)), (.int (2 : Int32)), (.int (1 : Int32)), (.int (1 : Int32)), (.int (0 : Int32)), (.int (2 : Int32)), (.int (1 : Int32)), (.int (2 : Int32)), (.int 0), (.int 0), (.int 0), (.int 0), (.int 0), (.int 0), (.int 0)] := A_n
  clear A_n
  refine WP.dup at_93 rfl (pc' := 94) rfl ?_
  refine WP.bipush at_94 (z := (11 : Int32)) rfl (pc' := 96) rfl ?_
  refine WP.iconst at_96 (z := (0 : Int32)) rfl (pc' := 97) rfl ?_
  refine WP.iastore 11 at_97 A_b1 rfl (Nat.le_of_ble_eq_true rfl) g_b1 (pc' := 98) rfl ?_
  intro h25 K26 A_n
  replace A_b1 : Av Z h25 b1 .int [(.int (0 : Int32)), (.int (1 : Int32)), (.int (2 : Int32)), (.int (0 : Int32)), (.int (2 : Int32)), (.int (1 : Int32)), (.int (1 : Int32)), (.int (0 : Int32)), (.int (2 : Int32)), (.int (1 : Int32)), (.int (2 : Int32)), (.int (0 : Int32)), (.int 0), (.int 0), (.int 0), (.int 0), (.int 0), (.int 0)] := A_n
  clear A_n
  refine WP.dup at_98 rfl (pc' := 99) rfl ?_
  refine WP.bipush at_99 (z := (12 : Int32)) rfl (pc' := 101) rfl ?_
  refine WP.iconst at_101 (z := (2 : Int32)) rfl (pc' := 102) rfl ?_
  refine WP.iastore 12 at_102 A_b1 rfl (Nat.le_of_ble_eq_true rfl) g_b1 (pc' := 103) rfl ?_
  intro h27 K28 A_n
  replace A_b1 : Av Z h27 b1 .int [(.int (0 : Int32)), (.int (1 : Int32)), (.int (2 : Int32)), (.int (0 : Int32)), (.int (2 : Int32)), (.int (1 : Int32)), (.int (1 : Int32)), (.int (0 : Int32)), (.int (2 : Int32)), (.int (1 : Int32)), (.int (2 : Int32)), (.int (0 : Int32)), (.int (2 : Int32)), (.int 0), (.int 0), (.int 0), (.int 0), (.int 0)] := A_n
  clear A_n
  refine WP.dup at_103 rfl (pc' := 104) rfl ?_
  refine WP.bipush at_104 (z := (13 : Int32)) rfl (pc' := 106) rfl ?_
  refine WP.iconst at_106 (z := (0 : Int32)) rfl (pc' := 107) rfl ?_
  refine WP.iastore 13 at_107 A_b1 rfl (Nat.le_of_ble_eq_true rfl) g_b1 (pc' := 108) rfl ?_
  intro h29 K30 A_n
  replace A_b1 : Av Z h29 b1 .int [(.int (0 : Int32)), (.int (1 : Int32)), (.int (2 : Int32)), (.int (0 : Int32)), (.int (2 : Int32)), (.int (1 : Int32)), (.int (1 : Int32)), (.int (0 : Int32)), (.int (2 : Int32)), (.int (1 : Int32)), (.int (2 : Int32)), (.int (0 : Int32)), (.int (2 : Int32)), (.int (0 : Int32)), (.int 0), (.int 0), (.int 0), (.int 0)] := A_n
  clear A_n
  refine WP.dup at_108 rfl (pc' := 109) rfl ?_
  refine WP.bipush at_109 (z := (14 : Int32)) rfl (pc' := 111) rfl ?_
  refine WP.iconst at_111 (z := (1 : Int32)) rfl (pc' := 112) rfl ?_
  refine WP.iastore 14 at_112 A_b1 rfl (Nat.le_of_ble_eq_true rfl) g_b1 (pc' := 113) rfl ?_
  intro h31 K32 A_n
  replace A_b1 : Av Z h31 b1 .int [(.int (0 : Int32)), (.int (1 : Int32)), (.int (2 : Int32)), (.int (0 : Int32)), (.int (2 : Int32)), (.int (1 : Int32)), (.int (1 : Int32)), (.int (0 : Int32)), (.int (2 : Int32)), (.int (1 : Int32)), (.int (2 : Int32)), (.int (0 : Int32)), (.int (2 : Int32)), (.int (0 : Int32)), (.int (1 : Int32)), (.int 0), (.int 0), (.int 0)] := A_n
  clear A_n
  refine WP.dup at_113 rfl (pc' := 114) rfl ?_
  refine WP.bipush at_114 (z := (15 : Int32)) rfl (pc' := 116) rfl ?_
  refine WP.iconst at_116 (z := (2 : Int32)) rfl (pc' := 117) rfl ?_
  refine WP.iastore 15 at_117 A_b1 rfl (Nat.le_of_ble_eq_true rfl) g_b1 (pc' := 118) rfl ?_
  intro h33 K34 A_n
  replace A_b1 : Av Z h33 b1 .int [(.int (0 : Int32)), (.int (1 : Int32)), (.int (2 : Int32)), (.int (0 : Int32)), (.int (2 : Int32)), (.int (1 : Int32)), (.int (1 : Int32)), (.int (0 : Int32)), (.int (2 : Int32)), (.int (1 : Int32)), (.int (2 : Int32)), (.int (0 : Int32)), (.int (2 : Int32)), (.int (0 : Int32)), (.int (1 : Int32)), (.int (2 : Int32)), (.int 0), (.int 0)] := A_n
  clear A_n
  refine WP.dup at_118 rfl (pc' := 119) rfl ?_
  refine WP.bipush at_119 (z := (16 : Int32)) rfl (pc' := 121) rfl ?_
  refine WP.iconst at_121 (z := (1 : Int32)) rfl (pc' := 122) rfl ?_
  refine WP.iastore 16 at_122 A_b1 rfl (Nat.le_of_ble_eq_true rfl) g_b1 (pc' := 123) rfl ?_
  intro h35 K36 A_n
  replace A_b1 : Av Z h35 b1 .int [(.int (0 : Int32)), (.int (1 : Int32)), (.int (2 : Int32)), (.int (0 : Int32)), (.int (2 : Int32)), (.int (1 : Int32)), (.int (1 : Int32)), (.int (0 : Int32)), (.int (2 : Int32)), (.int (1 : Int32)), (.int (2 : Int32)), (.int (0 : Int32)), (.int (2 : Int32)), (.int (0 : Int32)), (.int (1 : Int32)), (.int (2 : Int32)), (.int (1 : Int32)), (.int 0)] := A_n
  clear A_n
  refine WP.dup at_123 rfl (pc' := 124) rfl ?_
  refine WP.bipush at_124 (z := (17 : Int32)) rfl (pc' := 126) rfl ?_
  refine WP.iconst at_126 (z := (0 : Int32)) rfl (pc' := 127) rfl ?_
  refine WP.iastore 17 at_127 A_b1 rfl (Nat.le_of_ble_eq_true rfl) g_b1 (pc' := 128) rfl ?_
  intro h37 K38 A_n
  replace A_b1 : Av Z h37 b1 .int [(.int (0 : Int32)), (.int (1 : Int32)), (.int (2 : Int32)), (.int (0 : Int32)), (.int (2 : Int32)), (.int (1 : Int32)), (.int (1 : Int32)), (.int (0 : Int32)), (.int (2 : Int32)), (.int (1 : Int32)), (.int (2 : Int32)), (.int (0 : Int32)), (.int (2 : Int32)), (.int (0 : Int32)), (.int (1 : Int32)), (.int (2 : Int32)), (.int (1 : Int32)), (.int (0 : Int32))] := A_n
  clear A_n
  refine WP.astore at_128 (pc' := 130) rfl rfl (ls' := #[.val (.int keys), .val (.int v0), .val (.int v1), .val (.int v2), .val (.int perm), .val (.int k0), .val (.int k1), .val (.int k2), .val (.int j), .val (.int (4 : Int32)), .val (.ref b1), .unset, .unset, .unset, .unset, .unset, .unset, .unset, .unset, .unset, .unset, .unset, .unset, .unset, .unset, .unset, .unset, .unset, .unset, .unset]) rfl ?_
  refine WP.iconst at_130 (z := (3 : Int32)) rfl (pc' := 131) rfl ?_
  refine WP.newarr at_131 (w1 hw) (k := 3) rfl 3 (by decide) (by decide) (by decide) (by decide) (pc' := 133) rfl ?_
  intro b2 h39 eb_b2 g_b2 K40 A_b2
  replace A_b2 : Av Z h39 b2 .int [.int 0, .int 0, .int 0] := A_b2
  have lt_b1_b2 : b1 < b2 := by rw [eb_b2]; exact A_b1.lt
  replace A_b1 := A_b1.keep K40 own_nil
  refine WP.dup at_133 rfl (pc' := 134) rfl ?_
  refine WP.iconst at_134 (z := (0 : Int32)) rfl (pc' := 135) rfl ?_
  refine WP.iload at_135 rfl (pc' := 137) rfl ?_
  refine WP.iastore 0 at_137 A_b2 rfl (Nat.le_of_ble_eq_true rfl) g_b2 (pc' := 138) rfl ?_
  intro h41 K42 A_n
  replace A_b1 := A_b1.keep K42 (own_cons (by first | assumption | exact Ne.symm (by assumption) | exact Nat.ne_of_lt (by assumption) | exact Nat.ne_of_gt (by assumption)) own_nil)
  replace A_b2 : Av Z h41 b2 .int [(.int k0), (.int 0), (.int 0)] := A_n
  clear A_n
  refine WP.dup at_138 rfl (pc' := 139) rfl ?_
  refine WP.iconst at_139 (z := (1 : Int32)) rfl (pc' := 140) rfl ?_
  refine WP.iload at_140 rfl (pc' := 142) rfl ?_
  refine WP.iastore 1 at_142 A_b2 rfl (Nat.le_of_ble_eq_true rfl) g_b2 (pc' := 143) rfl ?_
  intro h43 K44 A_n
  replace A_b1 := A_b1.keep K44 (own_cons (by first | assumption | exact Ne.symm (by assumption) | exact Nat.ne_of_lt (by assumption) | exact Nat.ne_of_gt (by assumption)) own_nil)
  replace A_b2 : Av Z h43 b2 .int [(.int k0), (.int k1), (.int 0)] := A_n
  clear A_n
  refine WP.dup at_143 rfl (pc' := 144) rfl ?_
  refine WP.iconst at_144 (z := (2 : Int32)) rfl (pc' := 145) rfl ?_
  refine WP.iload at_145 rfl (pc' := 147) rfl ?_
  refine WP.iastore 2 at_147 A_b2 rfl (Nat.le_of_ble_eq_true rfl) g_b2 (pc' := 148) rfl ?_
  intro h45 K46 A_n
  replace A_b1 := A_b1.keep K46 (own_cons (by first | assumption | exact Ne.symm (by assumption) | exact Nat.ne_of_lt (by assumption) | exact Nat.ne_of_gt (by assumption)) own_nil)
  replace A_b2 : Av Z h45 b2 .int [(.int k0), (.int k1), (.int k2)] := A_n
  clear A_n
  refine WP.astore at_148 (pc' := 150) rfl rfl (ls' := #[.val (.int keys), .val (.int v0), .val (.int v1), .val (.int v2), .val (.int perm), .val (.int k0), .val (.int k1), .val (.int k2), .val (.int j), .val (.int (4 : Int32)), .val (.ref b1), .val (.ref b2), .unset, .unset, .unset, .unset, .unset, .unset, .unset, .unset, .unset, .unset, .unset, .unset, .unset, .unset, .unset, .unset, .unset, .unset]) rfl ?_
  refine WP.iconst at_150 (z := (3 : Int32)) rfl (pc' := 151) rfl ?_
  refine WP.newarr at_151 (w1 hw) (k := 3) rfl 3 (by decide) (by decide) (by decide) (by decide) (pc' := 153) rfl ?_
  intro b3 h47 eb_b3 g_b3 K48 A_b3
  replace A_b3 : Av Z h47 b3 .int [.int 0, .int 0, .int 0] := A_b3
  have lt_b1_b3 : b1 < b3 := by rw [eb_b3]; exact A_b1.lt
  have lt_b2_b3 : b2 < b3 := by rw [eb_b3]; exact A_b2.lt
  replace A_b1 := A_b1.keep K48 own_nil
  replace A_b2 := A_b2.keep K48 own_nil
  refine WP.dup at_153 rfl (pc' := 154) rfl ?_
  refine WP.iconst at_154 (z := (0 : Int32)) rfl (pc' := 155) rfl ?_
  refine WP.iloadN at_155 rfl (pc' := 156) rfl ?_
  refine WP.iastore 0 at_156 A_b3 rfl (Nat.le_of_ble_eq_true rfl) g_b3 (pc' := 157) rfl ?_
  intro h49 K50 A_n
  replace A_b1 := A_b1.keep K50 (own_cons (by first | assumption | exact Ne.symm (by assumption) | exact Nat.ne_of_lt (by assumption) | exact Nat.ne_of_gt (by assumption)) own_nil)
  replace A_b2 := A_b2.keep K50 (own_cons (by first | assumption | exact Ne.symm (by assumption) | exact Nat.ne_of_lt (by assumption) | exact Nat.ne_of_gt (by assumption)) own_nil)
  replace A_b3 : Av Z h49 b3 .int [(.int v0), (.int 0), (.int 0)] := A_n
  clear A_n
  refine WP.dup at_157 rfl (pc' := 158) rfl ?_
  refine WP.iconst at_158 (z := (1 : Int32)) rfl (pc' := 159) rfl ?_
  refine WP.iloadN at_159 rfl (pc' := 160) rfl ?_
  refine WP.iastore 1 at_160 A_b3 rfl (Nat.le_of_ble_eq_true rfl) g_b3 (pc' := 161) rfl ?_
  intro h51 K52 A_n
  replace A_b1 := A_b1.keep K52 (own_cons (by first | assumption | exact Ne.symm (by assumption) | exact Nat.ne_of_lt (by assumption) | exact Nat.ne_of_gt (by assumption)) own_nil)
  replace A_b2 := A_b2.keep K52 (own_cons (by first | assumption | exact Ne.symm (by assumption) | exact Nat.ne_of_lt (by assumption) | exact Nat.ne_of_gt (by assumption)) own_nil)
  replace A_b3 : Av Z h51 b3 .int [(.int v0), (.int v1), (.int 0)] := A_n
  clear A_n
  refine WP.dup at_161 rfl (pc' := 162) rfl ?_
  refine WP.iconst at_162 (z := (2 : Int32)) rfl (pc' := 163) rfl ?_
  refine WP.iloadN at_163 rfl (pc' := 164) rfl ?_
  refine WP.iastore 2 at_164 A_b3 rfl (Nat.le_of_ble_eq_true rfl) g_b3 (pc' := 165) rfl ?_
  intro h53 K54 A_n
  replace A_b1 := A_b1.keep K54 (own_cons (by first | assumption | exact Ne.symm (by assumption) | exact Nat.ne_of_lt (by assumption) | exact Nat.ne_of_gt (by assumption)) own_nil)
  replace A_b2 := A_b2.keep K54 (own_cons (by first | assumption | exact Ne.symm (by assumption) | exact Nat.ne_of_lt (by assumption) | exact Nat.ne_of_gt (by assumption)) own_nil)
  replace A_b3 : Av Z h53 b3 .int [(.int v0), (.int v1), (.int v2)] := A_n
  clear A_n
  refine WP.astore at_165 (pc' := 167) rfl rfl (ls' := #[.val (.int keys), .val (.int v0), .val (.int v1), .val (.int v2), .val (.int perm), .val (.int k0), .val (.int k1), .val (.int k2), .val (.int j), .val (.int (4 : Int32)), .val (.ref b1), .val (.ref b2), .val (.ref b3), .unset, .unset, .unset, .unset, .unset, .unset, .unset, .unset, .unset, .unset, .unset, .unset, .unset, .unset, .unset, .unset, .unset]) rfl ?_
  refine WP.aload at_167 rfl rfl (pc' := 169) rfl ?_
  refine WP.iconst at_169 (z := (3 : Int32)) rfl (pc' := 170) rfl ?_
  refine WP.iload at_170 rfl (pc' := 172) rfl ?_
  refine WP.imul at_172 (pc' := 173) rfl ?_
  rw [show (((3 : Int32) * (4 : Int32)) : Int32) = (12 : Int32) from by decide]
  refine WP.iaload 12 at_173 A_b1 (x := (2 : Int32)) rfl rfl (pc' := 174) rfl ?_
  refine WP.istore at_174 (pc' := 176) rfl (ls' := #[.val (.int keys), .val (.int v0), .val (.int v1), .val (.int v2), .val (.int perm), .val (.int k0), .val (.int k1), .val (.int k2), .val (.int j), .val (.int (4 : Int32)), .val (.ref b1), .val (.ref b2), .val (.ref b3), .val (.int (2 : Int32)), .unset, .unset, .unset, .unset, .unset, .unset, .unset, .unset, .unset, .unset, .unset, .unset, .unset, .unset, .unset, .unset]) rfl ?_
  refine WP.aload at_176 rfl rfl (pc' := 178) rfl ?_
  refine WP.iconst at_178 (z := (3 : Int32)) rfl (pc' := 179) rfl ?_
  refine WP.iload at_179 rfl (pc' := 181) rfl ?_
  refine WP.imul at_181 (pc' := 182) rfl ?_
  rw [show (((3 : Int32) * (4 : Int32)) : Int32) = (12 : Int32) from by decide]
  refine WP.iconst at_182 (z := (1 : Int32)) rfl (pc' := 183) rfl ?_
  refine WP.iadd at_183 (pc' := 184) rfl ?_
  rw [show (((12 : Int32) + (1 : Int32)) : Int32) = (13 : Int32) from by decide]
  refine WP.iaload 13 at_184 A_b1 (x := (0 : Int32)) rfl rfl (pc' := 185) rfl ?_
  refine WP.istore at_185 (pc' := 187) rfl (ls' := #[.val (.int keys), .val (.int v0), .val (.int v1), .val (.int v2), .val (.int perm), .val (.int k0), .val (.int k1), .val (.int k2), .val (.int j), .val (.int (4 : Int32)), .val (.ref b1), .val (.ref b2), .val (.ref b3), .val (.int (2 : Int32)), .val (.int (0 : Int32)), .unset, .unset, .unset, .unset, .unset, .unset, .unset, .unset, .unset, .unset, .unset, .unset, .unset, .unset, .unset]) rfl ?_
  refine WP.aload at_187 rfl rfl (pc' := 189) rfl ?_
  refine WP.iconst at_189 (z := (3 : Int32)) rfl (pc' := 190) rfl ?_
  refine WP.iload at_190 rfl (pc' := 192) rfl ?_
  refine WP.imul at_192 (pc' := 193) rfl ?_
  rw [show (((3 : Int32) * (4 : Int32)) : Int32) = (12 : Int32) from by decide]
  refine WP.iconst at_193 (z := (2 : Int32)) rfl (pc' := 194) rfl ?_
  refine WP.iadd at_194 (pc' := 195) rfl ?_
  rw [show (((12 : Int32) + (2 : Int32)) : Int32) = (14 : Int32) from by decide]
  refine WP.iaload 14 at_195 A_b1 (x := (1 : Int32)) rfl rfl (pc' := 196) rfl ?_
  refine WP.istore at_196 (pc' := 198) rfl (ls' := #[.val (.int keys), .val (.int v0), .val (.int v1), .val (.int v2), .val (.int perm), .val (.int k0), .val (.int k1), .val (.int k2), .val (.int j), .val (.int (4 : Int32)), .val (.ref b1), .val (.ref b2), .val (.ref b3), .val (.int (2 : Int32)), .val (.int (0 : Int32)), .val (.int (1 : Int32)), .unset, .unset, .unset, .unset, .unset, .unset, .unset, .unset, .unset, .unset, .unset, .unset, .unset, .unset]) rfl ?_
  refine WP.aload at_198 rfl rfl (pc' := 200) rfl ?_
  refine WP.iload at_200 rfl (pc' := 202) rfl ?_
  refine WP.iaload 2 at_202 A_b2 (x := k2) rfl rfl (pc' := 203) rfl ?_
  refine WP.istore at_203 (pc' := 205) rfl (ls' := #[.val (.int keys), .val (.int v0), .val (.int v1), .val (.int v2), .val (.int perm), .val (.int k0), .val (.int k1), .val (.int k2), .val (.int j), .val (.int (4 : Int32)), .val (.ref b1), .val (.ref b2), .val (.ref b3), .val (.int (2 : Int32)), .val (.int (0 : Int32)), .val (.int (1 : Int32)), .val (.int k2), .unset, .unset, .unset, .unset, .unset, .unset, .unset, .unset, .unset, .unset, .unset, .unset, .unset]) rfl ?_
  refine WP.aload at_205 rfl rfl (pc' := 207) rfl ?_
  refine WP.iload at_207 rfl (pc' := 209) rfl ?_
  refine WP.iaload 0 at_209 A_b2 (x := k0) rfl rfl (pc' := 210) rfl ?_
  refine WP.istore at_210 (pc' := 212) rfl (ls' := #[.val (.int keys), .val (.int v0), .val (.int v1), .val (.int v2), .val (.int perm), .val (.int k0), .val (.int k1), .val (.int k2), .val (.int j), .val (.int (4 : Int32)), .val (.ref b1), .val (.ref b2), .val (.ref b3), .val (.int (2 : Int32)), .val (.int (0 : Int32)), .val (.int (1 : Int32)), .val (.int k2), .val (.int k0), .unset, .unset, .unset, .unset, .unset, .unset, .unset, .unset, .unset, .unset, .unset, .unset]) rfl ?_
  refine WP.aload at_212 rfl rfl (pc' := 214) rfl ?_
  refine WP.iload at_214 rfl (pc' := 216) rfl ?_
  refine WP.iaload 1 at_216 A_b2 (x := k1) rfl rfl (pc' := 217) rfl ?_
  refine WP.istore at_217 (pc' := 219) rfl (ls' := #[.val (.int keys), .val (.int v0), .val (.int v1), .val (.int v2), .val (.int perm), .val (.int k0), .val (.int k1), .val (.int k2), .val (.int j), .val (.int (4 : Int32)), .val (.ref b1), .val (.ref b2), .val (.ref b3), .val (.int (2 : Int32)), .val (.int (0 : Int32)), .val (.int (1 : Int32)), .val (.int k2), .val (.int k0), .val (.int k1), .unset, .unset, .unset, .unset, .unset, .unset, .unset, .unset, .unset, .unset, .unset]) rfl ?_
  refine WP.aload at_219 rfl rfl (pc' := 221) rfl ?_
  refine WP.iload at_221 rfl (pc' := 223) rfl ?_
  refine WP.iaload 2 at_223 A_b3 (x := v2) rfl rfl (pc' := 224) rfl ?_
  refine WP.istore at_224 (pc' := 226) rfl (ls' := #[.val (.int keys), .val (.int v0), .val (.int v1), .val (.int v2), .val (.int perm), .val (.int k0), .val (.int k1), .val (.int k2), .val (.int j), .val (.int (4 : Int32)), .val (.ref b1), .val (.ref b2), .val (.ref b3), .val (.int (2 : Int32)), .val (.int (0 : Int32)), .val (.int (1 : Int32)), .val (.int k2), .val (.int k0), .val (.int k1), .val (.int v2), .unset, .unset, .unset, .unset, .unset, .unset, .unset, .unset, .unset, .unset]) rfl ?_
  refine WP.aload at_226 rfl rfl (pc' := 228) rfl ?_
  refine WP.iload at_228 rfl (pc' := 230) rfl ?_
  refine WP.iaload 0 at_230 A_b3 (x := v0) rfl rfl (pc' := 231) rfl ?_
  refine WP.istore at_231 (pc' := 233) rfl (ls' := #[.val (.int keys), .val (.int v0), .val (.int v1), .val (.int v2), .val (.int perm), .val (.int k0), .val (.int k1), .val (.int k2), .val (.int j), .val (.int (4 : Int32)), .val (.ref b1), .val (.ref b2), .val (.ref b3), .val (.int (2 : Int32)), .val (.int (0 : Int32)), .val (.int (1 : Int32)), .val (.int k2), .val (.int k0), .val (.int k1), .val (.int v2), .val (.int v0), .unset, .unset, .unset, .unset, .unset, .unset, .unset, .unset, .unset]) rfl ?_
  refine WP.aload at_233 rfl rfl (pc' := 235) rfl ?_
  refine WP.iload at_235 rfl (pc' := 237) rfl ?_
  refine WP.iaload 1 at_237 A_b3 (x := v1) rfl rfl (pc' := 238) rfl ?_
  refine WP.istore at_238 (pc' := 240) rfl (ls' := #[.val (.int keys), .val (.int v0), .val (.int v1), .val (.int v2), .val (.int perm), .val (.int k0), .val (.int k1), .val (.int k2), .val (.int j), .val (.int (4 : Int32)), .val (.ref b1), .val (.ref b2), .val (.ref b3), .val (.int (2 : Int32)), .val (.int (0 : Int32)), .val (.int (1 : Int32)), .val (.int k2), .val (.int k0), .val (.int k1), .val (.int v2), .val (.int v0), .val (.int v1), .unset, .unset, .unset, .unset, .unset, .unset, .unset, .unset]) rfl ?_
  refine WP.iload at_240 rfl (pc' := 242) rfl ?_
  refine WP.iload at_242 rfl (pc' := 244) rfl ?_
  refine WP.iload at_244 rfl (pc' := 246) rfl ?_
  refine WP.iload at_246 rfl (pc' := 248) rfl ?_
  refine WP.callS (y := (⟨"com/example/stampwise/stampwise/history/IntGroupsPlacePinLaw", "below", "(IIII)I"⟩ : MethodName)) (By := B1) (as := [(.int k0), (.int k1), (.int k2), (.int k2)]) (rest := []) at_248 (w2 hw) (w3 hw) (w4 hw) (w5 hw) (by decide) (bel_met hw k0 k1 k2 k2 m0 m1 m2 m2 hk0 hk1 hk2 hk2) pd_0 rfl rfl rfl (by decide) (Nat.le_of_ble_eq_true rfl) (by decide) (by decide) (pc' := 251) rfl ?_
  rintro _ _ ⟨rfl, ea, rfl, hea⟩
  show WP _ _ _ _ _ _ _ _ _ _ [(.int ea)]
  refine WP.istore at_251 (pc' := 253) rfl (ls' := #[.val (.int keys), .val (.int v0), .val (.int v1), .val (.int v2), .val (.int perm), .val (.int k0), .val (.int k1), .val (.int k2), .val (.int j), .val (.int (4 : Int32)), .val (.ref b1), .val (.ref b2), .val (.ref b3), .val (.int (2 : Int32)), .val (.int (0 : Int32)), .val (.int (1 : Int32)), .val (.int k2), .val (.int k0), .val (.int k1), .val (.int v2), .val (.int v0), .val (.int v1), .val (.int ea), .unset, .unset, .unset, .unset, .unset, .unset, .unset]) rfl ?_
  refine WP.iload at_253 rfl (pc' := 255) rfl ?_
  refine WP.iload at_255 rfl (pc' := 257) rfl ?_
  refine WP.iload at_257 rfl (pc' := 259) rfl ?_
  refine WP.iload at_259 rfl (pc' := 261) rfl ?_
  refine WP.callS (y := (⟨"com/example/stampwise/stampwise/history/IntGroupsPlacePinLaw", "below", "(IIII)I"⟩ : MethodName)) (By := B1) (as := [(.int k0), (.int k1), (.int k2), (.int k0)]) (rest := []) at_261 (w2 hw) (w3 hw) (w4 hw) (w5 hw) (by decide) (bel_met hw k0 k1 k2 k0 m0 m1 m2 m0 hk0 hk1 hk2 hk0) pd_0 rfl rfl rfl (by decide) (Nat.le_of_ble_eq_true rfl) (by decide) (by decide) (pc' := 264) rfl ?_
  rintro _ _ ⟨rfl, r1, rfl, hr1⟩
  show WP _ _ _ _ _ _ _ _ _ _ [(.int r1)]
  refine WP.iload at_264 rfl (pc' := 266) rfl ?_
  refine WP.iload at_266 rfl (pc' := 268) rfl ?_
  refine WP.callS (y := (⟨"com/example/stampwise/stampwise/history/IntGroupsPlacePinLaw", "same", "(II)I"⟩ : MethodName)) (By := B2) (as := [(.int k2), (.int k0)]) (rest := [(.int r1)]) at_268 (w6 hw) (w7 hw) (w4 hw) (w8 hw) (by decide) (sam_met hw k2 k0 m2 m0 hk2 hk0) pd_1 rfl rfl rfl (by decide) (Nat.le_of_ble_eq_true rfl) (by decide) (by decide) (pc' := 271) rfl ?_
  rintro _ _ ⟨rfl, r2, rfl, hr2⟩
  show WP _ _ _ _ _ _ _ _ _ _ [(.int r2), (.int r1)]
  refine WP.iadd at_271 (pc' := 272) rfl ?_
  obtain ⟨eb, e_eb⟩ : ∃ z, z = (r1 + r2) := ⟨_, rfl⟩
  rw [← e_eb]
  refine WP.istore at_272 (pc' := 274) rfl (ls' := #[.val (.int keys), .val (.int v0), .val (.int v1), .val (.int v2), .val (.int perm), .val (.int k0), .val (.int k1), .val (.int k2), .val (.int j), .val (.int (4 : Int32)), .val (.ref b1), .val (.ref b2), .val (.ref b3), .val (.int (2 : Int32)), .val (.int (0 : Int32)), .val (.int (1 : Int32)), .val (.int k2), .val (.int k0), .val (.int k1), .val (.int v2), .val (.int v0), .val (.int v1), .val (.int ea), .val (.int eb), .unset, .unset, .unset, .unset, .unset, .unset]) rfl ?_
  refine WP.iload at_274 rfl (pc' := 276) rfl ?_
  refine WP.iload at_276 rfl (pc' := 278) rfl ?_
  refine WP.iload at_278 rfl (pc' := 280) rfl ?_
  refine WP.iload at_280 rfl (pc' := 282) rfl ?_
  refine WP.callS (y := (⟨"com/example/stampwise/stampwise/history/IntGroupsPlacePinLaw", "below", "(IIII)I"⟩ : MethodName)) (By := B1) (as := [(.int k0), (.int k1), (.int k2), (.int k1)]) (rest := []) at_282 (w2 hw) (w3 hw) (w4 hw) (w5 hw) (by decide) (bel_met hw k0 k1 k2 k1 m0 m1 m2 m1 hk0 hk1 hk2 hk1) pd_0 rfl rfl rfl (by decide) (Nat.le_of_ble_eq_true rfl) (by decide) (by decide) (pc' := 285) rfl ?_
  rintro _ _ ⟨rfl, r3, rfl, hr3⟩
  show WP _ _ _ _ _ _ _ _ _ _ [(.int r3)]
  refine WP.iload at_285 rfl (pc' := 287) rfl ?_
  refine WP.iload at_287 rfl (pc' := 289) rfl ?_
  refine WP.callS (y := (⟨"com/example/stampwise/stampwise/history/IntGroupsPlacePinLaw", "same", "(II)I"⟩ : MethodName)) (By := B2) (as := [(.int k2), (.int k1)]) (rest := [(.int r3)]) at_289 (w6 hw) (w7 hw) (w4 hw) (w8 hw) (by decide) (sam_met hw k2 k1 m2 m1 hk2 hk1) pd_1 rfl rfl rfl (by decide) (Nat.le_of_ble_eq_true rfl) (by decide) (by decide) (pc' := 292) rfl ?_
  rintro _ _ ⟨rfl, r4, rfl, hr4⟩
  show WP _ _ _ _ _ _ _ _ _ _ [(.int r4), (.int r3)]
  refine WP.iadd at_292 (pc' := 293) rfl ?_
  refine WP.iload at_293 rfl (pc' := 295) rfl ?_
  refine WP.iload at_295 rfl (pc' := 297) rfl ?_
  refine WP.callS (y := (⟨"com/example/stampwise/stampwise/history/IntGroupsPlacePinLaw", "same", "(II)I"⟩ : MethodName)) (By := B2) (as := [(.int k0), (.int k1)]) (rest := [(.int (r3 + r4))]) at_297 (w6 hw) (w7 hw) (w4 hw) (w8 hw) (by decide) (sam_met hw k0 k1 m0 m1 hk0 hk1) pd_1 rfl rfl rfl (by decide) (Nat.le_of_ble_eq_true rfl) (by decide) (by decide) (pc' := 300) rfl ?_
  rintro _ _ ⟨rfl, r5, rfl, hr5⟩
  show WP _ _ _ _ _ _ _ _ _ _ [(.int r5), (.int (r3 + r4))]
  refine WP.iadd at_300 (pc' := 301) rfl ?_
  obtain ⟨ec, e_ec⟩ : ∃ z, z = ((r3 + r4) + r5) := ⟨_, rfl⟩
  rw [← e_ec]
  refine WP.istore at_301 (pc' := 303) rfl (ls' := #[.val (.int keys), .val (.int v0), .val (.int v1), .val (.int v2), .val (.int perm), .val (.int k0), .val (.int k1), .val (.int k2), .val (.int j), .val (.int (4 : Int32)), .val (.ref b1), .val (.ref b2), .val (.ref b3), .val (.int (2 : Int32)), .val (.int (0 : Int32)), .val (.int (1 : Int32)), .val (.int k2), .val (.int k0), .val (.int k1), .val (.int v2), .val (.int v0), .val (.int v1), .val (.int ea), .val (.int eb), .val (.int ec), .unset, .unset, .unset, .unset, .unset]) rfl ?_
  have bb (a b d k : Nat) : bel a b d k ≤ 3 := by simp only [bel]; split <;> split <;> split <;> omega
  have ss (a b : Nat) : sam a b ≤ 1 := by simp only [sam]; split <;> omega
  have y1 := bb m0 m1 m2 m0
  have y2 := ss m2 m0
  have y3 := bb m0 m1 m2 m1
  have y4 := ss m2 m1
  have y5 := ss m0 m1
  have feb : eb.toInt = ((bel m0 m1 m2 m0 + sam m2 m0 : Nat) : Int) := by rw [e_eb, own_iadd] <;> omega
  have fe1 : (r3 + r4).toInt = r3.toInt + r4.toInt := by rw [own_iadd] <;> omega
  have fec : ec.toInt = ((bel m0 m1 m2 m1 + sam m2 m1 + sam m0 m1 : Nat) : Int) := by rw [e_ec, own_iadd] <;> omega
  obtain ⟨⟨p1, p2, p3, p4, p5, p6, p7, p8, p9, p10, p11, p12, p13⟩, pj⟩ := pure_4 ⟨m0, l0⟩ ⟨m1, l1⟩ ⟨m2, l2⟩
  obtain ⟨pj1, pj2⟩ := pj ⟨mj, lj⟩
  simp only at p1 p2 p3 p4 p5 p6 p7 p8 p9 p10 p11 p12 p13 pj1 pj2
  clear bb ss y1 y2 y3 y4 y5 fe1
  refine WP.newobj (lay := L_IG) (vs := [.null, .null]) at_303 (w9 hw) (w10 hw) (w11 hw) (lay_IG hw) rfl (by decide) (by decide) (pc' := 306) rfl ?_
  intro g h61 eb_g g_g K62 O_g
  have lt_b1_g : b1 < g := by rw [eb_g]; exact A_b1.lt
  have lt_b2_g : b2 < g := by rw [eb_g]; exact A_b2.lt
  have lt_b3_g : b3 < g := by rw [eb_g]; exact A_b3.lt
  replace A_b1 := A_b1.keep K62 own_nil
  replace A_b2 := A_b2.keep K62 own_nil
  replace A_b3 := A_b3.keep K62 own_nil
  refine WP.dup at_306 rfl (pc' := 307) rfl ?_
  refine WP.iconst at_307 (z := (4 : Int32)) rfl (pc' := 308) rfl ?_
  refine WP.callI (a := g) (y := (⟨"com/example/stampwise/stampwise/history/IntGroups", "<init>", "(I)V"⟩ : MethodName)) (By := B3) (as := [(.int (4 : Int32))]) (rest := [(.ref g)]) at_308 (w12 hw) (w13 hw) (w11 hw) (w14 hw) rfl rfl (by decide) (ini_met hw g g_g O_g) pd_2 rfl rfl rfl (by decide) (Nat.le_of_ble_eq_true rfl) (by decide) (by decide) (pc' := 311) rfl ?_
  rintro _ h63 ⟨rfl, hI⟩
  show WP _ _ _ _ _ _ _ _ _ _ [(.ref g)]
  refine WP.astore at_311 (pc' := 313) rfl rfl (ls' := #[.val (.int keys), .val (.int v0), .val (.int v1), .val (.int v2), .val (.int perm), .val (.int k0), .val (.int k1), .val (.int k2), .val (.int j), .val (.int (4 : Int32)), .val (.ref b1), .val (.ref b2), .val (.ref b3), .val (.int (2 : Int32)), .val (.int (0 : Int32)), .val (.int (1 : Int32)), .val (.int k2), .val (.int k0), .val (.int k1), .val (.int v2), .val (.int v0), .val (.int v1), .val (.int ea), .val (.int eb), .val (.int ec), .val (.ref g), .unset, .unset, .unset, .unset]) rfl ?_
  refine WP.aload at_313 rfl rfl (pc' := 315) rfl ?_
  refine WP.iload at_315 rfl (pc' := 317) rfl ?_
  refine WP.callV (a := g) (z := (⟨"com/example/stampwise/stampwise/history/IntGroups", "count", "(I)V"⟩ : MethodName)) (Cl := "com/example/stampwise/stampwise/history/IntGroups") (y := (⟨"com/example/stampwise/stampwise/history/IntGroups", "count", "(I)V"⟩ : MethodName)) (By := B5) (as := [(.int k0)]) (rest := []) at_317 (w20 hw) (w21 hw) (w23 hw) (w22 hw) (w11 hw) (w24 hw) rfl rfl (by decide) hI.exa (cou_met hw g k0 m0 _ hI hk0 l0 p1) pd_2 rfl rfl rfl (by decide) (Nat.le_of_ble_eq_true rfl) (by decide) (by decide) (pc' := 320) rfl ?_
  rintro _ h64 ⟨rfl, hI⟩
  show WP _ _ _ _ _ _ _ _ _ _ []
  refine WP.aload at_320 rfl rfl (pc' := 322) rfl ?_
  refine WP.iload at_322 rfl (pc' := 324) rfl ?_
  refine WP.callV (a := g) (z := (⟨"com/example/stampwise/stampwise/history/IntGroups", "count", "(I)V"⟩ : MethodName)) (Cl := "com/example/stampwise/stampwise/history/IntGroups") (y := (⟨"com/example/stampwise/stampwise/history/IntGroups", "count", "(I)V"⟩ : MethodName)) (By := B5) (as := [(.int k1)]) (rest := []) at_324 (w20 hw) (w21 hw) (w23 hw) (w22 hw) (w11 hw) (w24 hw) rfl rfl (by decide) hI.exa (cou_met hw g k1 m1 _ hI hk1 l1 p2) pd_2 rfl rfl rfl (by decide) (Nat.le_of_ble_eq_true rfl) (by decide) (by decide) (pc' := 327) rfl ?_
  rintro _ h65 ⟨rfl, hI⟩
  show WP _ _ _ _ _ _ _ _ _ _ []
  refine WP.aload at_327 rfl rfl (pc' := 329) rfl ?_
  refine WP.iload at_329 rfl (pc' := 331) rfl ?_
  refine WP.callV (a := g) (z := (⟨"com/example/stampwise/stampwise/history/IntGroups", "count", "(I)V"⟩ : MethodName)) (Cl := "com/example/stampwise/stampwise/history/IntGroups") (y := (⟨"com/example/stampwise/stampwise/history/IntGroups", "count", "(I)V"⟩ : MethodName)) (By := B5) (as := [(.int k2)]) (rest := []) at_331 (w20 hw) (w21 hw) (w23 hw) (w22 hw) (w11 hw) (w24 hw) rfl rfl (by decide) hI.exa (cou_met hw g k2 m2 _ hI hk2 l2 p3) pd_2 rfl rfl rfl (by decide) (Nat.le_of_ble_eq_true rfl) (by decide) (by decide) (pc' := 334) rfl ?_
  rintro _ h66 ⟨rfl, hI⟩
  show WP _ _ _ _ _ _ _ _ _ _ []
  refine WP.aload at_334 rfl rfl (pc' := 336) rfl ?_
  refine WP.callV (a := g) (z := (⟨"com/example/stampwise/stampwise/history/IntGroups", "startPlacing", "()V"⟩ : MethodName)) (Cl := "com/example/stampwise/stampwise/history/IntGroups") (y := (⟨"com/example/stampwise/stampwise/history/IntGroups", "startPlacing", "()V"⟩ : MethodName)) (By := B6) (as := []) (rest := []) at_336 (w25 hw) (w26 hw) (w28 hw) (w27 hw) (w11 hw) (w29 hw) rfl rfl (by decide) hI.exa (stp_met hw g _ hI p4) pd_3 rfl rfl rfl (by decide) (Nat.le_of_ble_eq_true rfl) (by decide) (by decide) (pc' := 339) rfl ?_
  rintro _ h67 ⟨rfl, hI⟩
  show WP _ _ _ _ _ _ _ _ _ _ []
  refine WP.aload at_339 rfl rfl (pc' := 341) rfl ?_
  refine WP.iload at_341 rfl (pc' := 343) rfl ?_
  refine WP.iload at_343 rfl (pc' := 345) rfl ?_
  refine WP.callV (a := g) (z := (⟨"com/example/stampwise/stampwise/history/IntGroups", "place", "(II)I"⟩ : MethodName)) (Cl := "com/example/stampwise/stampwise/history/IntGroups") (y := (⟨"com/example/stampwise/stampwise/history/IntGroups", "place", "(II)I"⟩ : MethodName)) (By := B7) (as := [(.int k2), (.int v2)]) (rest := []) at_345 (w36 hw) (w37 hw) (w39 hw) (w38 hw) (w11 hw) (w40 hw) rfl rfl (by decide) hI.exa (plc_met hw g k2 v2 m2 _ _ hI hk2 l2 (by omega) (by simpa using p5)) pd_1 rfl rfl rfl (by decide) (Nat.le_of_ble_eq_true rfl) (by decide) (by decide) (pc' := 348) rfl ?_
  rintro _ h68 ⟨ra, rfl, hra, hI⟩
  show WP _ _ _ _ _ _ _ _ _ _ [(.int ra)]
  refine WP.istore at_348 (pc' := 350) rfl (ls' := #[.val (.int keys), .val (.int v0), .val (.int v1), .val (.int v2), .val (.int perm), .val (.int k0), .val (.int k1), .val (.int k2), .val (.int j), .val (.int (4 : Int32)), .val (.ref b1), .val (.ref b2), .val (.ref b3), .val (.int (2 : Int32)), .val (.int (0 : Int32)), .val (.int (1 : Int32)), .val (.int k2), .val (.int k0), .val (.int k1), .val (.int v2), .val (.int v0), .val (.int v1), .val (.int ea), .val (.int eb), .val (.int ec), .val (.ref g), .val (.int ra), .unset, .unset, .unset]) rfl ?_
  refine WP.aload at_350 rfl rfl (pc' := 352) rfl ?_
  refine WP.iload at_352 rfl (pc' := 354) rfl ?_
  refine WP.iload at_354 rfl (pc' := 356) rfl ?_
  refine WP.callV (a := g) (z := (⟨"com/example/stampwise/stampwise/history/IntGroups", "place", "(II)I"⟩ : MethodName)) (Cl := "com/example/stampwise/stampwise/history/IntGroups") (y := (⟨"com/example/stampwise/stampwise/history/IntGroups", "place", "(II)I"⟩ : MethodName)) (By := B7) (as := [(.int k0), (.int v0)]) (rest := []) at_356 (w36 hw) (w37 hw) (w39 hw) (w38 hw) (w11 hw) (w40 hw) rfl rfl (by decide) hI.exa (plc_met hw g k0 v0 m0 _ _ hI hk0 l0 (by omega) (by simpa using p6)) pd_1 rfl rfl rfl (by decide) (Nat.le_of_ble_eq_true rfl) (by decide) (by decide) (pc' := 359) rfl ?_
  rintro _ h69 ⟨rb, rfl, hrb, hI⟩
  show WP _ _ _ _ _ _ _ _ _ _ [(.int rb)]
  refine WP.istore at_359 (pc' := 361) rfl (ls' := #[.val (.int keys), .val (.int v0), .val (.int v1), .val (.int v2), .val (.int perm), .val (.int k0), .val (.int k1), .val (.int k2), .val (.int j), .val (.int (4 : Int32)), .val (.ref b1), .val (.ref b2), .val (.ref b3), .val (.int (2 : Int32)), .val (.int (0 : Int32)), .val (.int (1 : Int32)), .val (.int k2), .val (.int k0), .val (.int k1), .val (.int v2), .val (.int v0), .val (.int v1), .val (.int ea), .val (.int eb), .val (.int ec), .val (.ref g), .val (.int ra), .val (.int rb), .unset, .unset]) rfl ?_
  refine WP.aload at_361 rfl rfl (pc' := 363) rfl ?_
  refine WP.iload at_363 rfl (pc' := 365) rfl ?_
  refine WP.iload at_365 rfl (pc' := 367) rfl ?_
  refine WP.callV (a := g) (z := (⟨"com/example/stampwise/stampwise/history/IntGroups", "place", "(II)I"⟩ : MethodName)) (Cl := "com/example/stampwise/stampwise/history/IntGroups") (y := (⟨"com/example/stampwise/stampwise/history/IntGroups", "place", "(II)I"⟩ : MethodName)) (By := B7) (as := [(.int k1), (.int v1)]) (rest := []) at_367 (w36 hw) (w37 hw) (w39 hw) (w38 hw) (w11 hw) (w40 hw) rfl rfl (by decide) hI.exa (plc_met hw g k1 v1 m1 _ _ hI hk1 l1 (by omega) (by simpa using p7)) pd_1 rfl rfl rfl (by decide) (Nat.le_of_ble_eq_true rfl) (by decide) (by decide) (pc' := 370) rfl ?_
  rintro _ h70 ⟨rc, rfl, hrc, hI⟩
  show WP _ _ _ _ _ _ _ _ _ _ [(.int rc)]
  refine WP.istore at_370 (pc' := 372) rfl (ls' := #[.val (.int keys), .val (.int v0), .val (.int v1), .val (.int v2), .val (.int perm), .val (.int k0), .val (.int k1), .val (.int k2), .val (.int j), .val (.int (4 : Int32)), .val (.ref b1), .val (.ref b2), .val (.ref b3), .val (.int (2 : Int32)), .val (.int (0 : Int32)), .val (.int (1 : Int32)), .val (.int k2), .val (.int k0), .val (.int k1), .val (.int v2), .val (.int v0), .val (.int v1), .val (.int ea), .val (.int eb), .val (.int ec), .val (.ref g), .val (.int ra), .val (.int rb), .val (.int rc), .unset]) rfl ?_
  refine WP.iload at_372 rfl (pc' := 374) rfl ?_
  refine WP.iload at_374 rfl (pc' := 376) rfl ?_
  refine WP.icmpNe at_376 (tgt := 393) (by decide) (pc' := 379) rfl (fun c376 => ?_) (fun c376 => ?_)
  · exfalso; omega
  refine WP.iload at_379 rfl (pc' := 381) rfl ?_
  refine WP.iload at_381 rfl (pc' := 383) rfl ?_
  refine WP.icmpNe at_383 (tgt := 393) (by decide) (pc' := 386) rfl (fun c383 => ?_) (fun c383 => ?_)
  · exfalso; omega
  refine WP.iload at_386 rfl (pc' := 388) rfl ?_
  refine WP.iload at_388 rfl (pc' := 390) rfl ?_
  refine WP.icmpEq at_390 (tgt := 395) (by decide) (pc' := 393) rfl (fun c390 => ?_) (fun c390 => ?_)
  ·
    refine WP.aload at_395 rfl rfl (pc' := 397) rfl ?_
    refine WP.callV (a := g) (z := (⟨"com/example/stampwise/stampwise/history/IntGroups", "values", "()[I"⟩ : MethodName)) (Cl := "com/example/stampwise/stampwise/history/IntGroups") (y := (⟨"com/example/stampwise/stampwise/history/IntGroups", "values", "()[I"⟩ : MethodName)) (By := B8) (as := []) (rest := []) at_397 (w41 hw) (w42 hw) (w44 hw) (w43 hw) (w11 hw) (w45 hw) rfl rfl (by decide) hI.exa (vls_met hw g _ _ hI) pd_4 rfl rfl rfl (by decide) (Nat.le_of_ble_eq_true rfl) (by decide) (by decide) (pc' := 400) rfl ?_
    rintro _ h71 ⟨wa, rfl, A_wa, hI⟩
    show WP _ _ _ _ _ _ _ _ _ _ [(.ref wa)]
    refine WP.astore at_400 (pc' := 402) rfl rfl (ls' := #[.val (.int keys), .val (.int v0), .val (.int v1), .val (.int v2), .val (.int perm), .val (.int k0), .val (.int k1), .val (.int k2), .val (.int j), .val (.int (4 : Int32)), .val (.ref b1), .val (.ref b2), .val (.ref b3), .val (.int (2 : Int32)), .val (.int (0 : Int32)), .val (.int (1 : Int32)), .val (.int k2), .val (.int k0), .val (.int k1), .val (.int v2), .val (.int v0), .val (.int v1), .val (.int ea), .val (.int eb), .val (.int ec), .val (.ref g), .val (.int ra), .val (.int rb), .val (.int rc), .val (.ref wa)]) rfl ?_
    refine WP.aload at_402 rfl rfl (pc' := 404) rfl ?_
    refine WP.ifnullN at_404 (pc' := 407) rfl ?_
    refine WP.aload at_407 rfl rfl (pc' := 409) rfl ?_
    refine WP.alen at_409 A_wa (k := (3 : Int32)) (by simp) (pc' := 410) rfl ?_
    refine WP.iconst at_410 (z := (3 : Int32)) rfl (pc' := 411) rfl ?_
    refine WP.icmpEq at_411 (tgt := 416) (by decide) (pc' := 414) rfl (fun c411 => ?_) (fun c411 => ?_)
    ·
      obtain ⟨na, hna⟩ : ∃ z, z = (sp (cnt (cnt (cnt [0, 0, 0, 0, 0] m0) m1) m2)).getD (m2 + 1) 0 := ⟨_, rfl⟩
      obtain ⟨nb, hnb⟩ : ∃ z, z = (cnt (sp (cnt (cnt (cnt [0, 0, 0, 0, 0] m0) m1) m2)) m2).getD (m0 + 1) 0 := ⟨_, rfl⟩
      obtain ⟨nc, hnc⟩ : ∃ z, z = (cnt (cnt (sp (cnt (cnt (cnt [0, 0, 0, 0, 0] m0) m1) m2)) m2) m0).getD (m1 + 1) 0 := ⟨_, rfl⟩
      rw [← hna] at A_wa p5 p8 p11 p12
      rw [← hnb] at A_wa p6 p9 p11 p13
      rw [← hnc] at A_wa p7 p10 p12 p13
      refine WP.aload at_416 rfl rfl (pc' := 418) rfl ?_
      refine WP.iload at_418 rfl (pc' := 420) rfl ?_
      refine WP.iaload na at_420 A_wa (x := v2) (by omega) (by rw [List.getElem?_set_ne (by omega), List.getElem?_set_ne (by omega), List.getElem?_set_self (by simpa using p5)]) (pc' := 421) rfl ?_
      refine WP.iload at_421 rfl (pc' := 423) rfl ?_
      refine WP.icmpNe at_423 (tgt := 446) (by decide) (pc' := 426) rfl (fun c423 => ?_) (fun c423 => ?_)
      · exfalso; omega
      refine WP.aload at_426 rfl rfl (pc' := 428) rfl ?_
      refine WP.iload at_428 rfl (pc' := 430) rfl ?_
      refine WP.iaload nb at_430 A_wa (x := v0) (by omega) (by rw [List.getElem?_set_ne (by omega), List.getElem?_set_self (by simpa using p6)]) (pc' := 431) rfl ?_
      refine WP.iload at_431 rfl (pc' := 433) rfl ?_
      refine WP.icmpNe at_433 (tgt := 446) (by decide) (pc' := 436) rfl (fun c433 => ?_) (fun c433 => ?_)
      · exfalso; omega
      refine WP.aload at_436 rfl rfl (pc' := 438) rfl ?_
      refine WP.iload at_438 rfl (pc' := 440) rfl ?_
      refine WP.iaload nc at_440 A_wa (x := v1) (by omega) (by rw [List.getElem?_set_self (by simpa using p7)]) (pc' := 441) rfl ?_
      refine WP.iload at_441 rfl (pc' := 443) rfl ?_
      refine WP.icmpEq at_443 (tgt := 448) (by decide) (pc' := 446) rfl (fun c443 => ?_) (fun c443 => ?_)
      ·
        refine WP.aload at_448 rfl rfl (pc' := 450) rfl ?_
        refine WP.iload at_450 rfl (pc' := 452) rfl ?_
        refine WP.callV (a := g) (z := (⟨"com/example/stampwise/stampwise/history/IntGroups", "start", "(I)I"⟩ : MethodName)) (Cl := "com/example/stampwise/stampwise/history/IntGroups") (y := (⟨"com/example/stampwise/stampwise/history/IntGroups", "start", "(I)I"⟩ : MethodName)) (By := B9) (as := [(.int j)]) (rest := []) at_452 (w46 hw) (w47 hw) (w49 hw) (w48 hw) (w11 hw) (w50 hw) rfl rfl (by decide) hI.exa (sta_met hw g j mj _ _ hI hj lj pj2) pd_5 rfl rfl rfl (by decide) (Nat.le_of_ble_eq_true rfl) (by decide) (by decide) (pc' := 455) rfl ?_
        rintro _ h72 ⟨rs, rfl, hrs⟩
        show WP _ _ _ _ _ _ _ _ _ _ [(.int rs)]
        refine WP.iload at_455 rfl (pc' := 457) rfl ?_
        refine WP.iload at_457 rfl (pc' := 459) rfl ?_
        refine WP.iload at_459 rfl (pc' := 461) rfl ?_
        refine WP.iload at_461 rfl (pc' := 463) rfl ?_
        refine WP.callS (y := (⟨"com/example/stampwise/stampwise/history/IntGroupsPlacePinLaw", "below", "(IIII)I"⟩ : MethodName)) (By := B1) (as := [(.int k0), (.int k1), (.int k2), (.int j)]) (rest := [(.int rs)]) at_463 (w2 hw) (w3 hw) (w4 hw) (w5 hw) (by decide) (bel_met hw k0 k1 k2 j m0 m1 m2 mj hk0 hk1 hk2 hj) pd_0 rfl rfl rfl (by decide) (Nat.le_of_ble_eq_true rfl) (by decide) (by decide) (pc' := 466) rfl ?_
        rintro _ _ ⟨rfl, rb2, rfl, hrb2⟩
        show WP _ _ _ _ _ _ _ _ _ _ [(.int rb2), (.int rs)]
        refine WP.icmpNe at_466 (tgt := 473) (by decide) (pc' := 469) rfl (fun c466 => ?_) (fun c466 => ?_)
        ·
          refine WP.iconst at_473 (z := (0 : Int32)) rfl (pc' := 474) rfl ?_
          exact WP.retN at_474 (t := .boolean) rfl (by simp) (by decide) (by decide) (by exfalso; omega)
        refine WP.iconst at_469 (z := (1 : Int32)) rfl (pc' := 470) rfl ?_
        refine WP.goto at_470 (pc' := 474) (by decide) ?_
        exact WP.retN at_474 (t := .boolean) rfl (by simp) (by decide) (by decide) own_q1
      exfalso; omega
    exfalso; omega
  exfalso; omega
theorem law_40_5 {l : Launch} {Z : State} {a0 : Array Value} (hw : HW Z a0) {n0 : Nat} {h : Heap} (keys v0 v1 v2 perm k0 k1 k2 j : Int32) (m0 m1 m2 mj : Nat) (hk0 : k0.toInt = (m0 : Int)) (hk1 : k1.toInt = (m1 : Int)) (hk2 : k2.toInt = (m2 : Int)) (hj : j.toInt = (mj : Int)) (l0 : m0 < 4) (l1 : m1 < 4) (l2 : m2 < 4) (lj : mj < 5) : WP l B0 Z n0 (fun v h' => v = some (.int 1)) h 0 0 40 #[.val (.int keys), .val (.int v0), .val (.int v1), .val (.int v2), .val (.int perm), .val (.int k0), .val (.int k1), .val (.int k2), .val (.int j), .val (.int (5 : Int32)), .unset, .unset, .unset, .unset, .unset, .unset, .unset, .unset, .unset, .unset, .unset, .unset, .unset, .unset, .unset, .unset, .unset, .unset, .unset, .unset] [] := by
  have k32_0 : (0 : Int32).toInt = 0 := by decide
  have k32_1 : (1 : Int32).toInt = 1 := by decide
  have k32_2 : (2 : Int32).toInt = 2 := by decide
  have k32_3 : (3 : Int32).toInt = 3 := by decide
  have k32_4 : (4 : Int32).toInt = 4 := by decide
  have k32_5 : (5 : Int32).toInt = 5 := by decide
  have k32_6 : (6 : Int32).toInt = 6 := by decide
  have k32_7 : (7 : Int32).toInt = 7 := by decide
  have k32_8 : (8 : Int32).toInt = 8 := by decide
  have k32_9 : (9 : Int32).toInt = 9 := by decide
  have k32_10 : (10 : Int32).toInt = 10 := by decide
  have k32_11 : (11 : Int32).toInt = 11 := by decide
  have k32_12 : (12 : Int32).toInt = 12 := by decide
  have k32_13 : (13 : Int32).toInt = 13 := by decide
  have k32_14 : (14 : Int32).toInt = 14 := by decide
  have k32_15 : (15 : Int32).toInt = 15 := by decide
  have k32_16 : (16 : Int32).toInt = 16 := by decide
  have k32_17 : (17 : Int32).toInt = 17 := by decide
  have k32_18 : (18 : Int32).toInt = 18 := by decide
  refine WP.bipush at_40 (z := (18 : Int32)) rfl (pc' := 42) rfl ?_
  refine WP.newarr at_42 (w1 hw) (k := 18) rfl 18 (by decide) (by decide) (by decide) (by decide) (pc' := 44) rfl ?_
  intro b1 h1 eb_b1 g_b1 K2 A_b1
  replace A_b1 : Av Z h1 b1 .int [.int 0, .int 0, .int 0, .int 0, .int 0, .int 0, .int 0, .int 0, .int 0, .int 0, .int 0, .int 0, .int 0, .int 0, .int 0, .int 0, .int 0, .int 0] := A_b1
  refine WP.dup at_44 rfl (pc' := 45) rfl ?_
  refine WP.iconst at_45 (z := (0 : Int32)) rfl (pc' := 46) rfl ?_
  refine WP.iconst at_46 (z := (0 : Int32)) rfl (pc' := 47) rfl ?_
  refine WP.iastore 0 at_47 A_b1 rfl (Nat.le_of_ble_eq_true rfl) g_b1 (pc' := 48) rfl ?_
  intro h3 K4 A_n
  replace A_b1 : Av Z h3 b1 .int [(.int (0 : Int32)), (.int 0), (.int 0), (.int 0), (.int 0), (.int 0), (.int 0), (.int 0), (.int 0), (.int 0), (.int 0), (.int 0), (.int 0), (.int 0), (.int 0), (.int 0), (.int 0), (.int 0)] := A_n
  clear A_n
  refine WP.dup at_48 rfl (pc' := 49) rfl ?_
  refine WP.iconst at_49 (z := (1 : Int32)) rfl (pc' := 50) rfl ?_
  refine WP.iconst at_50 (z := (1 : Int32)) rfl (pc' := 51) rfl ?_
  refine WP.iastore 1 at_51 A_b1 rfl (Nat.le_of_ble_eq_true rfl) g_b1 (pc' := 52) rfl ?_
  intro h5 K6 A_n
  replace A_b1 : Av Z h5 b1 .int [(.int (0 : Int32)), (.int (1 : Int32)), (.int 0), (.int 0), (.int 0), (.int 0), (.int 0), (.int 0), (.int 0), (.int 0), (.int 0), (.int 0), (.int 0), (.int 0), (.int 0), (.int 0), (.int 0), (.int 0)] := A_n
  clear A_n
  refine WP.dup at_52 rfl (pc' := 53) rfl ?_
  refine WP.iconst at_53 (z := (2 : Int32)) rfl (pc' := 54) rfl ?_
  refine WP.iconst at_54 (z := (2 : Int32)) rfl (pc' := 55) rfl ?_
  refine WP.iastore 2 at_55 A_b1 rfl (Nat.le_of_ble_eq_true rfl) g_b1 (pc' := 56) rfl ?_
  intro h7 K8 A_n
  replace A_b1 : Av Z h7 b1 .int [(.int (0 : Int32)), (.int (1 : Int32)), (.int (2 : Int32)), (.int 0), (.int 0), (.int 0), (.int 0), (.int 0), (.int 0), (.int 0), (.int 0), (.int 0), (.int 0), (.int 0), (.int 0), (.int 0), (.int 0), (.int 0)] := A_n
  clear A_n
  refine WP.dup at_56 rfl (pc' := 57) rfl ?_
  refine WP.iconst at_57 (z := (3 : Int32)) rfl (pc' := 58) rfl ?_
  refine WP.iconst at_58 (z := (0 : Int32)) rfl (pc' := 59) rfl ?_
  refine WP.iastore 3 at_59 A_b1 rfl (Nat.le_of_ble_eq_true rfl) g_b1 (pc' := 60) rfl ?_
  intro h9 K10 A_n
  replace A_b1 : Av Z h9 b1 .int [(.int (0 : Int32)), (.int (1 : Int32)), (.int (2 : Int32)), (.int (0 : Int32)), (.int 0), (.int 0), (.int 0), (.int 0), (.int 0), (.int 0), (.int 0), (.int 0), (.int 0), (.int 0), (.int 0), (.int 0), (.int 0), (.int 0)] := A_n
  clear A_n
  refine WP.dup at_60 rfl (pc' := 61) rfl ?_
  refine WP.iconst at_61 (z := (4 : Int32)) rfl (pc' := 62) rfl ?_
  refine WP.iconst at_62 (z := (2 : Int32)) rfl (pc' := 63) rfl ?_
  refine WP.iastore 4 at_63 A_b1 rfl (Nat.le_of_ble_eq_true rfl) g_b1 (pc' := 64) rfl ?_
  intro h11 K12 A_n
  replace A_b1 : Av Z h11 b1 .int [(.int (0 : Int32)), (.int (1 : Int32)), (.int (2 : Int32)), (.int (0 : Int32)), (.int (2 : Int32)), (.int 0), (.int 0), (.int 0), (.int 0), (.int 0), (.int 0), (.int 0), (.int 0), (.int 0), (.int 0), (.int 0), (.int 0), (.int 0)] := A_n
  clear A_n
  refine WP.dup at_64 rfl (pc' := 65) rfl ?_
  refine WP.iconst at_65 (z := (5 : Int32)) rfl (pc' := 66) rfl ?_
  refine WP.iconst at_66 (z := (1 : Int32)) rfl (pc' := 67) rfl ?_
  refine WP.iastore 5 at_67 A_b1 rfl (Nat.le_of_ble_eq_true rfl) g_b1 (pc' := 68) rfl ?_
  intro h13 K14 A_n
  replace A_b1 : Av Z h13 b1 .int [(.int (0 : Int32)), (.int (1 : Int32)), (.int (2 : Int32)), (.int (0 : Int32)), (.int (2 : Int32)), (.int (1 : Int32)), (.int 0), (.int 0), (.int 0), (.int 0), (.int 0), (.int 0), (.int 0), (.int 0), (.int 0), (.int 0), (.int 0), (.int 0)] := A_n
  clear A_n
  refine WP.dup at_68 rfl (pc' := 69) rfl ?_
  refine WP.bipush at_69 (z := (6 : Int32)) rfl (pc' := 71) rfl ?_
  refine WP.iconst at_71 (z := (1 : Int32)) rfl (pc' := 72) rfl ?_
  refine WP.iastore 6 at_72 A_b1 rfl (Nat.le_of_ble_eq_true rfl) g_b1 (pc' := 73) rfl ?_
  intro h15 K16 A_n
  replace A_b1 : Av Z h15 b1 .int [(.int (0 : Int32)), (.int (1 : Int32)), (.int (2 : Int32)), (.int (0 : Int32)), (.int (2 : Int32)), (.int (1 : Int32)), (.int (1 : Int32)), (.int 0), (.int 0), (.int 0), (.int 0), (.int 0), (.int 0), (.int 0), (.int 0), (.int 0), (.int 0), (.int 0)] := A_n
  clear A_n
  refine WP.dup at_73 rfl (pc' := 74) rfl ?_
  refine WP.bipush at_74 (z := (7 : Int32)) rfl (pc' := 76) rfl ?_
  refine WP.iconst at_76 (z := (0 : Int32)) rfl (pc' := 77) rfl ?_
  refine WP.iastore 7 at_77 A_b1 rfl (Nat.le_of_ble_eq_true rfl) g_b1 (pc' := 78) rfl ?_
  intro h17 K18 A_n
  replace A_b1 : Av Z h17 b1 .int [(.int (0 : Int32)), (.int (1 : Int32)), (.int (2 : Int32)), (.int (0 : Int32)), (.int (2 : Int32)), (.int (1 : Int32)), (.int (1 : Int32)), (.int (0 : Int32)), (.int 0), (.int 0), (.int 0), (.int 0), (.int 0), (.int 0), (.int 0), (.int 0), (.int 0), (.int 0)] := A_n
  clear A_n
  refine WP.dup at_78 rfl (pc' := 79) rfl ?_
  refine WP.bipush at_79 (z := (8 : Int32)) rfl (pc' := 81) rfl ?_
  refine WP.iconst at_81 (z := (2 : Int32)) rfl (pc' := 82) rfl ?_
  refine WP.iastore 8 at_82 A_b1 rfl (Nat.le_of_ble_eq_true rfl) g_b1 (pc' := 83) rfl ?_
  intro h19 K20 A_n
  replace A_b1 : Av Z h19 b1 .int [(.int (0 : Int32)), (.int (1 : Int32)), (.int (2 : Int32)), (.int (0 : Int32)), (.int (2 : Int32)), (.int (1 : Int32)), (.int (1 : Int32)), (.int (0 : Int32)), (.int (2 : Int32)), (.int 0), (.int 0), (.int 0), (.int 0), (.int 0), (.int 0), (.int 0), (.int 0), (.int 0)] := A_n
  clear A_n
  refine WP.dup at_83 rfl (pc' := 84) rfl ?_
  refine WP.bipush at_84 (z := (9 : Int32)) rfl (pc' := 86) rfl ?_
  refine WP.iconst at_86 (z := (1 : Int32)) rfl (pc' := 87) rfl ?_
  refine WP.iastore 9 at_87 A_b1 rfl (Nat.le_of_ble_eq_true rfl) g_b1 (pc' := 88) rfl ?_
  intro h21 K22 A_n
  replace A_b1 : Av Z h21 b1 .int [(.int (0 : Int32)), (.int (1 : Int32)), (.int (2 : Int32)), (.int (0 : Int32)), (.int (2 : Int32)), (.int (1 : Int32)), (.int (1 : Int32)), (.int (0 : Int32)), (.int (2 : Int32)), (.int (1 : Int32)), (.int 0), (.int 0), (.int 0), (.int 0), (.int 0), (.int 0), (.int 0), (.int 0)] := A_n
  clear A_n
  refine WP.dup at_88 rfl (pc' := 89) rfl ?_
  refine WP.bipush at_89 (z := (10 : Int32)) rfl (pc' := 91) rfl ?_
  refine WP.iconst at_91 (z := (2 : Int32)) rfl (pc' := 92) rfl ?_
  refine WP.iastore 10 at_92 A_b1 rfl (Nat.le_of_ble_eq_true rfl) g_b1 (pc' := 93) rfl ?_
  intro h23 K24 A_n
  replace A_b1 : Av Z h23 b1 .int [(.int (0 : Int32)), (.int (1 : Int32)), (.int (2 : Int32)), (.int (0 : Int32)), (.int (2 : Int32)), (.int (1 : Int32)), (.int (1 : Int32)), (.int (0 : Int32)), (.int (2 : Int32)), (.int (1 : Int32)), (.int (2 : Int32)), (.int 0), (.int 0), (.int 0), (.int 0), (.int 0), (.int 0), (.int 0)] := A_n
  clear A_n
  refine WP.dup at_93 rfl (pc' := 94) rfl ?_
  refine WP.bipush at_94 (z := (11 : Int32)) rfl (pc' := 96) rfl ?_
  refine WP.iconst at_96 (z := (0 : Int32)) rfl (pc' := 97) rfl ?_
  refine WP.iastore 11 at_97 A_b1 rfl (Nat.le_of_ble_eq_true rfl) g_b1 (pc' := 98) rfl ?_
  intro h25 K26 A_n
  replace A_b1 : Av Z h25 b1 .int [(.int (0 : Int32)), (.int (1 : Int32)), (.int (2 : Int32)), (.int (0 : Int32)), (.int (2 : Int32)), (.int (1 : Int32)), (.int (1 : Int32)), (.int (0 : Int32)), (.int (2 : Int32)), (.int (1 : Int32)), (.int (2 : Int32)), (.int (0 : Int32)), (.int 0), (.int 0), (.int 0), (.int 0), (.int 0), (.int 0)] := A_n
  clear A_n
  refine WP.dup at_98 rfl (pc' := 99) rfl ?_
  refine WP.bipush at_99 (z := (12 : Int32)) rfl (pc' := 101) rfl ?_
  refine WP.iconst at_101 (z := (2 : Int32)) rfl (pc' := 102) rfl ?_
  refine WP.iastore 12 at_102 A_b1 rfl (Nat.le_of_ble_eq_true rfl) g_b1 (pc' := 103) rfl ?_
  intro h27 K28 A_n
  replace A_b1 : Av Z h27 b1 .int [(.int (0 : Int32)), (.int (1 : Int32)), (.int (2 : Int32)), (.int (0 : Int32)), (.int (2 : Int32)), (.int (1 : Int32)), (.int (1 : Int32)), (.int (0 : Int32)), (.int (2 : Int32)), (.int (1 : Int32)), (.int (2 : Int32)), (.int (0 : Int32)), (.int (2 : Int32)), (.int 0), (.int 0), (.int 0), (.int 0), (.int 0)] := A_n
  clear A_n
  refine WP.dup at_103 rfl (pc' := 104) rfl ?_
  refine WP.bipush at_104 (z := (13 : Int32)) rfl (pc' := 106) rfl ?_
  refine WP.iconst at_106 (z := (0 : Int32)) rfl (pc' := 107) rfl ?_
  refine WP.iastore 13 at_107 A_b1 rfl (Nat.le_of_ble_eq_true rfl) g_b1 (pc' := 108) rfl ?_
  intro h29 K30 A_n
  replace A_b1 : Av Z h29 b1 .int [(.int (0 : Int32)), (.int (1 : Int32)), (.int (2 : Int32)), (.int (0 : Int32)), (.int (2 : Int32)), (.int (1 : Int32)), (.int (1 : Int32)), (.int (0 : Int32)), (.int (2 : Int32)), (.int (1 : Int32)), (.int (2 : Int32)), (.int (0 : Int32)), (.int (2 : Int32)), (.int (0 : Int32)), (.int 0), (.int 0), (.int 0), (.int 0)] := A_n
  clear A_n
  refine WP.dup at_108 rfl (pc' := 109) rfl ?_
  refine WP.bipush at_109 (z := (14 : Int32)) rfl (pc' := 111) rfl ?_
  refine WP.iconst at_111 (z := (1 : Int32)) rfl (pc' := 112) rfl ?_
  refine WP.iastore 14 at_112 A_b1 rfl (Nat.le_of_ble_eq_true rfl) g_b1 (pc' := 113) rfl ?_
  intro h31 K32 A_n
  replace A_b1 : Av Z h31 b1 .int [(.int (0 : Int32)), (.int (1 : Int32)), (.int (2 : Int32)), (.int (0 : Int32)), (.int (2 : Int32)), (.int (1 : Int32)), (.int (1 : Int32)), (.int (0 : Int32)), (.int (2 : Int32)), (.int (1 : Int32)), (.int (2 : Int32)), (.int (0 : Int32)), (.int (2 : Int32)), (.int (0 : Int32)), (.int (1 : Int32)), (.int 0), (.int 0), (.int 0)] := A_n
  clear A_n
  refine WP.dup at_113 rfl (pc' := 114) rfl ?_
  refine WP.bipush at_114 (z := (15 : Int32)) rfl (pc' := 116) rfl ?_
  refine WP.iconst at_116 (z := (2 : Int32)) rfl (pc' := 117) rfl ?_
  refine WP.iastore 15 at_117 A_b1 rfl (Nat.le_of_ble_eq_true rfl) g_b1 (pc' := 118) rfl ?_
  intro h33 K34 A_n
  replace A_b1 : Av Z h33 b1 .int [(.int (0 : Int32)), (.int (1 : Int32)), (.int (2 : Int32)), (.int (0 : Int32)), (.int (2 : Int32)), (.int (1 : Int32)), (.int (1 : Int32)), (.int (0 : Int32)), (.int (2 : Int32)), (.int (1 : Int32)), (.int (2 : Int32)), (.int (0 : Int32)), (.int (2 : Int32)), (.int (0 : Int32)), (.int (1 : Int32)), (.int (2 : Int32)), (.int 0), (.int 0)] := A_n
  clear A_n
  refine WP.dup at_118 rfl (pc' := 119) rfl ?_
  refine WP.bipush at_119 (z := (16 : Int32)) rfl (pc' := 121) rfl ?_
  refine WP.iconst at_121 (z := (1 : Int32)) rfl (pc' := 122) rfl ?_
  refine WP.iastore 16 at_122 A_b1 rfl (Nat.le_of_ble_eq_true rfl) g_b1 (pc' := 123) rfl ?_
  intro h35 K36 A_n
  replace A_b1 : Av Z h35 b1 .int [(.int (0 : Int32)), (.int (1 : Int32)), (.int (2 : Int32)), (.int (0 : Int32)), (.int (2 : Int32)), (.int (1 : Int32)), (.int (1 : Int32)), (.int (0 : Int32)), (.int (2 : Int32)), (.int (1 : Int32)), (.int (2 : Int32)), (.int (0 : Int32)), (.int (2 : Int32)), (.int (0 : Int32)), (.int (1 : Int32)), (.int (2 : Int32)), (.int (1 : Int32)), (.int 0)] := A_n
  clear A_n
  refine WP.dup at_123 rfl (pc' := 124) rfl ?_
  refine WP.bipush at_124 (z := (17 : Int32)) rfl (pc' := 126) rfl ?_
  refine WP.iconst at_126 (z := (0 : Int32)) rfl (pc' := 127) rfl ?_
  refine WP.iastore 17 at_127 A_b1 rfl (Nat.le_of_ble_eq_true rfl) g_b1 (pc' := 128) rfl ?_
  intro h37 K38 A_n
  replace A_b1 : Av Z h37 b1 .int [(.int (0 : Int32)), (.int (1 : Int32)), (.int (2 : Int32)), (.int (0 : Int32)), (.int (2 : Int32)), (.int (1 : Int32)), (.int (1 : Int32)), (.int (0 : Int32)), (.int (2 : Int32)), (.int (1 : Int32)), (.int (2 : Int32)), (.int (0 : Int32)), (.int (2 : Int32)), (.int (0 : Int32)), (.int (1 : Int32)), (.int (2 : Int32)), (.int (1 : Int32)), (.int (0 : Int32))] := A_n
  clear A_n
  refine WP.astore at_128 (pc' := 130) rfl rfl (ls' := #[.val (.int keys), .val (.int v0), .val (.int v1), .val (.int v2), .val (.int perm), .val (.int k0), .val (.int k1), .val (.int k2), .val (.int j), .val (.int (5 : Int32)), .val (.ref b1), .unset, .unset, .unset, .unset, .unset, .unset, .unset, .unset, .unset, .unset, .unset, .unset, .unset, .unset, .unset, .unset, .unset, .unset, .unset]) rfl ?_
  refine WP.iconst at_130 (z := (3 : Int32)) rfl (pc' := 131) rfl ?_
  refine WP.newarr at_131 (w1 hw) (k := 3) rfl 3 (by decide) (by decide) (by decide) (by decide) (pc' := 133) rfl ?_
  intro b2 h39 eb_b2 g_b2 K40 A_b2
  replace A_b2 : Av Z h39 b2 .int [.int 0, .int 0, .int 0] := A_b2
  have lt_b1_b2 : b1 < b2 := by rw [eb_b2]; exact A_b1.lt
  replace A_b1 := A_b1.keep K40 own_nil
  refine WP.dup at_133 rfl (pc' := 134) rfl ?_
  refine WP.iconst at_134 (z := (0 : Int32)) rfl (pc' := 135) rfl ?_
  refine WP.iload at_135 rfl (pc' := 137) rfl ?_
  refine WP.iastore 0 at_137 A_b2 rfl (Nat.le_of_ble_eq_true rfl) g_b2 (pc' := 138) rfl ?_
  intro h41 K42 A_n
  replace A_b1 := A_b1.keep K42 (own_cons (by first | assumption | exact Ne.symm (by assumption) | exact Nat.ne_of_lt (by assumption) | exact Nat.ne_of_gt (by assumption)) own_nil)
  replace A_b2 : Av Z h41 b2 .int [(.int k0), (.int 0), (.int 0)] := A_n
  clear A_n
  refine WP.dup at_138 rfl (pc' := 139) rfl ?_
  refine WP.iconst at_139 (z := (1 : Int32)) rfl (pc' := 140) rfl ?_
  refine WP.iload at_140 rfl (pc' := 142) rfl ?_
  refine WP.iastore 1 at_142 A_b2 rfl (Nat.le_of_ble_eq_true rfl) g_b2 (pc' := 143) rfl ?_
  intro h43 K44 A_n
  replace A_b1 := A_b1.keep K44 (own_cons (by first | assumption | exact Ne.symm (by assumption) | exact Nat.ne_of_lt (by assumption) | exact Nat.ne_of_gt (by assumption)) own_nil)
  replace A_b2 : Av Z h43 b2 .int [(.int k0), (.int k1), (.int 0)] := A_n
  clear A_n
  refine WP.dup at_143 rfl (pc' := 144) rfl ?_
  refine WP.iconst at_144 (z := (2 : Int32)) rfl (pc' := 145) rfl ?_
  refine WP.iload at_145 rfl (pc' := 147) rfl ?_
  refine WP.iastore 2 at_147 A_b2 rfl (Nat.le_of_ble_eq_true rfl) g_b2 (pc' := 148) rfl ?_
  intro h45 K46 A_n
  replace A_b1 := A_b1.keep K46 (own_cons (by first | assumption | exact Ne.symm (by assumption) | exact Nat.ne_of_lt (by assumption) | exact Nat.ne_of_gt (by assumption)) own_nil)
  replace A_b2 : Av Z h45 b2 .int [(.int k0), (.int k1), (.int k2)] := A_n
  clear A_n
  refine WP.astore at_148 (pc' := 150) rfl rfl (ls' := #[.val (.int keys), .val (.int v0), .val (.int v1), .val (.int v2), .val (.int perm), .val (.int k0), .val (.int k1), .val (.int k2), .val (.int j), .val (.int (5 : Int32)), .val (.ref b1), .val (.ref b2), .unset, .unset, .unset, .unset, .unset, .unset, .unset, .unset, .unset, .unset, .unset, .unset, .unset, .unset, .unset, .unset, .unset, .unset]) rfl ?_
  refine WP.iconst at_150 (z := (3 : Int32)) rfl (pc' := 151) rfl ?_
  refine WP.newarr at_151 (w1 hw) (k := 3) rfl 3 (by decide) (by decide) (by decide) (by decide) (pc' := 153) rfl ?_
  intro b3 h47 eb_b3 g_b3 K48 A_b3
  replace A_b3 : Av Z h47 b3 .int [.int 0, .int 0, .int 0] := A_b3
  have lt_b1_b3 : b1 < b3 := by rw [eb_b3]; exact A_b1.lt
  have lt_b2_b3 : b2 < b3 := by rw [eb_b3]; exact A_b2.lt
  replace A_b1 := A_b1.keep K48 own_nil
  replace A_b2 := A_b2.keep K48 own_nil
  refine WP.dup at_153 rfl (pc' := 154) rfl ?_
  refine WP.iconst at_154 (z := (0 : Int32)) rfl (pc' := 155) rfl ?_
  refine WP.iloadN at_155 rfl (pc' := 156) rfl ?_
  refine WP.iastore 0 at_156 A_b3 rfl (Nat.le_of_ble_eq_true rfl) g_b3 (pc' := 157) rfl ?_
  intro h49 K50 A_n
  replace A_b1 := A_b1.keep K50 (own_cons (by first | assumption | exact Ne.symm (by assumption) | exact Nat.ne_of_lt (by assumption) | exact Nat.ne_of_gt (by assumption)) own_nil)
  replace A_b2 := A_b2.keep K50 (own_cons (by first | assumption | exact Ne.symm (by assumption) | exact Nat.ne_of_lt (by assumption) | exact Nat.ne_of_gt (by assumption)) own_nil)
  replace A_b3 : Av Z h49 b3 .int [(.int v0), (.int 0), (.int 0)] := A_n
  clear A_n
  refine WP.dup at_157 rfl (pc' := 158) rfl ?_
  refine WP.iconst at_158 (z := (1 : Int32)) rfl (pc' := 159) rfl ?_
  refine WP.iloadN at_159 rfl (pc' := 160) rfl ?_
  refine WP.iastore 1 at_160 A_b3 rfl (Nat.le_of_ble_eq_true rfl) g_b3 (pc' := 161) rfl ?_
  intro h51 K52 A_n
  replace A_b1 := A_b1.keep K52 (own_cons (by first | assumption | exact Ne.symm (by assumption) | exact Nat.ne_of_lt (by assumption) | exact Nat.ne_of_gt (by assumption)) own_nil)
  replace A_b2 := A_b2.keep K52 (own_cons (by first | assumption | exact Ne.symm (by assumption) | exact Nat.ne_of_lt (by assumption) | exact Nat.ne_of_gt (by assumption)) own_nil)
  replace A_b3 : Av Z h51 b3 .int [(.int v0), (.int v1), (.int 0)] := A_n
  clear A_n
  refine WP.dup at_161 rfl (pc' := 162) rfl ?_
  refine WP.iconst at_162 (z := (2 : Int32)) rfl (pc' := 163) rfl ?_
  refine WP.iloadN at_163 rfl (pc' := 164) rfl ?_
  refine WP.iastore 2 at_164 A_b3 rfl (Nat.le_of_ble_eq_true rfl) g_b3 (pc' := 165) rfl ?_
  intro h53 K54 A_n
  replace A_b1 := A_b1.keep K54 (own_cons (by first | assumption | exact Ne.symm (by assumption) | exact Nat.ne_of_lt (by assumption) | exact Nat.ne_of_gt (by assumption)) own_nil)
  replace A_b2 := A_b2.keep K54 (own_cons (by first | assumption | exact Ne.symm (by assumption) | exact Nat.ne_of_lt (by assumption) | exact Nat.ne_of_gt (by assumption)) own_nil)
  replace A_b3 : Av Z h53 b3 .int [(.int v0), (.int v1), (.int v2)] := A_n
  clear A_n
  refine WP.astore at_165 (pc' := 167) rfl rfl (ls' := #[.val (.int keys), .val (.int v0), .val (.int v1), .val (.int v2), .val (.int perm), .val (.int k0), .val (.int k1), .val (.int k2), .val (.int j), .val (.int (5 : Int32)), .val (.ref b1), .val (.ref b2), .val (.ref b3), .unset, .unset, .unset, .unset, .unset, .unset, .unset, .unset, .unset, .unset, .unset, .unset, .unset, .unset, .unset, .unset, .unset]) rfl ?_
  refine WP.aload at_167 rfl rfl (pc' := 169) rfl ?_
  refine WP.iconst at_169 (z := (3 : Int32)) rfl (pc' := 170) rfl ?_
  refine WP.iload at_170 rfl (pc' := 172) rfl ?_
  refine WP.imul at_172 (pc' := 173) rfl ?_
  rw [show (((3 : Int32) * (5 : Int32)) : Int32) = (15 : Int32) from by decide]
  refine WP.iaload 15 at_173 A_b1 (x := (2 : Int32)) rfl rfl (pc' := 174) rfl ?_
  refine WP.istore at_174 (pc' := 176) rfl (ls' := #[.val (.int keys), .val (.int v0), .val (.int v1), .val (.int v2), .val (.int perm), .val (.int k0), .val (.int k1), .val (.int k2), .val (.int j), .val (.int (5 : Int32)), .val (.ref b1), .val (.ref b2), .val (.ref b3), .val (.int (2 : Int32)), .unset, .unset, .unset, .unset, .unset, .unset, .unset, .unset, .unset, .unset, .unset, .unset, .unset, .unset, .unset, .unset]) rfl ?_
  refine WP.aload at_176 rfl rfl (pc' := 178) rfl ?_
  refine WP.iconst at_178 (z := (3 : Int32)) rfl (pc' := 179) rfl ?_
  refine WP.iload at_179 rfl (pc' := 181) rfl ?_
  refine WP.imul at_181 (pc' := 182) rfl ?_
  rw [show (((3 : Int32) * (5 : Int32)) : Int32) = (15 : Int32) from by decide]
  refine WP.iconst at_182 (z := (1 : Int32)) rfl (pc' := 183) rfl ?_
  refine WP.iadd at_183 (pc' := 184) rfl ?_
  rw [show (((15 : Int32) + (1 : Int32)) : Int32) = (16 : Int32) from by decide]
  refine WP.iaload 16 at_184 A_b1 (x := (1 : Int32)) rfl rfl (pc' := 185) rfl ?_
  refine WP.istore at_185 (pc' := 187) rfl (ls' := #[.val (.int keys), .val (.int v0), .val (.int v1), .val (.int v2), .val (.int perm), .val (.int k0), .val (.int k1), .val (.int k2), .val (.int j), .val (.int (5 : Int32)), .val (.ref b1), .val (.ref b2), .val (.ref b3), .val (.int (2 : Int32)), .val (.int (1 : Int32)), .unset, .unset, .unset, .unset, .unset, .unset, .unset, .unset, .unset, .unset, .unset, .unset, .unset, .unset, .unset]) rfl ?_
  refine WP.aload at_187 rfl rfl (pc' := 189) rfl ?_
  refine WP.iconst at_189 (z := (3 : Int32)) rfl (pc' := 190) rfl ?_
  refine WP.iload at_190 rfl (pc' := 192) rfl ?_
  refine WP.imul at_192 (pc' := 193) rfl ?_
  rw [show (((3 : Int32) * (5 : Int32)) : Int32) = (15 : Int32) from by decide]
  refine WP.iconst at_193 (z := (2 : Int32)) rfl (pc' := 194) rfl ?_
  refine WP.iadd at_194 (pc' := 195) rfl ?_
  rw [show (((15 : Int32) + (2 : Int32)) : Int32) = (17 : Int32) from by decide]
  refine WP.iaload 17 at_195 A_b1 (x := (0 : Int32)) rfl rfl (pc' := 196) rfl ?_
  refine WP.istore at_196 (pc' := 198) rfl (ls' := #[.val (.int keys), .val (.int v0), .val (.int v1), .val (.int v2), .val (.int perm), .val (.int k0), .val (.int k1), .val (.int k2), .val (.int j), .val (.int (5 : Int32)), .val (.ref b1), .val (.ref b2), .val (.ref b3), .val (.int (2 : Int32)), .val (.int (1 : Int32)), .val (.int (0 : Int32)), .unset, .unset, .unset, .unset, .unset, .unset, .unset, .unset, .unset, .unset, .unset, .unset, .unset, .unset]) rfl ?_
  refine WP.aload at_198 rfl rfl (pc' := 200) rfl ?_
  refine WP.iload at_200 rfl (pc' := 202) rfl ?_
  refine WP.iaload 2 at_202 A_b2 (x := k2) rfl rfl (pc' := 203) rfl ?_
  refine WP.istore at_203 (pc' := 205) rfl (ls' := #[.val (.int keys), .val (.int v0), .val (.int v1), .val (.int v2), .val (.int perm), .val (.int k0), .val (.int k1), .val (.int k2), .val (.int j), .val (.int (5 : Int32)), .val (.ref b1), .val (.ref b2), .val (.ref b3), .val (.int (2 : Int32)), .val (.int (1 : Int32)), .val (.int (0 : Int32)), .val (.int k2), .unset, .unset, .unset, .unset, .unset, .unset, .unset, .unset, .unset, .unset, .unset, .unset, .unset]) rfl ?_
  refine WP.aload at_205 rfl rfl (pc' := 207) rfl ?_
  refine WP.iload at_207 rfl (pc' := 209) rfl ?_
  refine WP.iaload 1 at_209 A_b2 (x := k1) rfl rfl (pc' := 210) rfl ?_
  refine WP.istore at_210 (pc' := 212) rfl (ls' := #[.val (.int keys), .val (.int v0), .val (.int v1), .val (.int v2), .val (.int perm), .val (.int k0), .val (.int k1), .val (.int k2), .val (.int j), .val (.int (5 : Int32)), .val (.ref b1), .val (.ref b2), .val (.ref b3), .val (.int (2 : Int32)), .val (.int (1 : Int32)), .val (.int (0 : Int32)), .val (.int k2), .val (.int k1), .unset, .unset, .unset, .unset, .unset, .unset, .unset, .unset, .unset, .unset, .unset, .unset]) rfl ?_
  refine WP.aload at_212 rfl rfl (pc' := 214) rfl ?_
  refine WP.iload at_214 rfl (pc' := 216) rfl ?_
  refine WP.iaload 0 at_216 A_b2 (x := k0) rfl rfl (pc' := 217) rfl ?_
  refine WP.istore at_217 (pc' := 219) rfl (ls' := #[.val (.int keys), .val (.int v0), .val (.int v1), .val (.int v2), .val (.int perm), .val (.int k0), .val (.int k1), .val (.int k2), .val (.int j), .val (.int (5 : Int32)), .val (.ref b1), .val (.ref b2), .val (.ref b3), .val (.int (2 : Int32)), .val (.int (1 : Int32)), .val (.int (0 : Int32)), .val (.int k2), .val (.int k1), .val (.int k0), .unset, .unset, .unset, .unset, .unset, .unset, .unset, .unset, .unset, .unset, .unset]) rfl ?_
  refine WP.aload at_219 rfl rfl (pc' := 221) rfl ?_
  refine WP.iload at_221 rfl (pc' := 223) rfl ?_
  refine WP.iaload 2 at_223 A_b3 (x := v2) rfl rfl (pc' := 224) rfl ?_
  refine WP.istore at_224 (pc' := 226) rfl (ls' := #[.val (.int keys), .val (.int v0), .val (.int v1), .val (.int v2), .val (.int perm), .val (.int k0), .val (.int k1), .val (.int k2), .val (.int j), .val (.int (5 : Int32)), .val (.ref b1), .val (.ref b2), .val (.ref b3), .val (.int (2 : Int32)), .val (.int (1 : Int32)), .val (.int (0 : Int32)), .val (.int k2), .val (.int k1), .val (.int k0), .val (.int v2), .unset, .unset, .unset, .unset, .unset, .unset, .unset, .unset, .unset, .unset]) rfl ?_
  refine WP.aload at_226 rfl rfl (pc' := 228) rfl ?_
  refine WP.iload at_228 rfl (pc' := 230) rfl ?_
  refine WP.iaload 1 at_230 A_b3 (x := v1) rfl rfl (pc' := 231) rfl ?_
  refine WP.istore at_231 (pc' := 233) rfl (ls' := #[.val (.int keys), .val (.int v0), .val (.int v1), .val (.int v2), .val (.int perm), .val (.int k0), .val (.int k1), .val (.int k2), .val (.int j), .val (.int (5 : Int32)), .val (.ref b1), .val (.ref b2), .val (.ref b3), .val (.int (2 : Int32)), .val (.int (1 : Int32)), .val (.int (0 : Int32)), .val (.int k2), .val (.int k1), .val (.int k0), .val (.int v2), .val (.int v1), .unset, .unset, .unset, .unset, .unset, .unset, .unset, .unset, .unset]) rfl ?_
  refine WP.aload at_233 rfl rfl (pc' := 235) rfl ?_
  refine WP.iload at_235 rfl (pc' := 237) rfl ?_
  refine WP.iaload 0 at_237 A_b3 (x := v0) rfl rfl (pc' := 238) rfl ?_
  refine WP.istore at_238 (pc' := 240) rfl (ls' := #[.val (.int keys), .val (.int v0), .val (.int v1), .val (.int v2), .val (.int perm), .val (.int k0), .val (.int k1), .val (.int k2), .val (.int j), .val (.int (5 : Int32)), .val (.ref b1), .val (.ref b2), .val (.ref b3), .val (.int (2 : Int32)), .val (.int (1 : Int32)), .val (.int (0 : Int32)), .val (.int k2), .val (.int k1), .val (.int k0), .val (.int v2), .val (.int v1), .val (.int v0), .unset, .unset, .unset, .unset, .unset, .unset, .unset, .unset]) rfl ?_
  refine WP.iload at_240 rfl (pc' := 242) rfl ?_
  refine WP.iload at_242 rfl (pc' := 244) rfl ?_
  refine WP.iload at_244 rfl (pc' := 246) rfl ?_
  refine WP.iload at_246 rfl (pc' := 248) rfl ?_
  refine WP.callS (y := (⟨"com/example/stampwise/stampwise/history/IntGroupsPlacePinLaw", "below", "(IIII)I"⟩ : MethodName)) (By := B1) (as := [(.int k0), (.int k1), (.int k2), (.int k2)]) (rest := []) at_248 (w2 hw) (w3 hw) (w4 hw) (w5 hw) (by decide) (bel_met hw k0 k1 k2 k2 m0 m1 m2 m2 hk0 hk1 hk2 hk2) pd_0 rfl rfl rfl (by decide) (Nat.le_of_ble_eq_true rfl) (by decide) (by decide) (pc' := 251) rfl ?_
  rintro _ _ ⟨rfl, ea, rfl, hea⟩
  show WP _ _ _ _ _ _ _ _ _ _ [(.int ea)]
  refine WP.istore at_251 (pc' := 253) rfl (ls' := #[.val (.int keys), .val (.int v0), .val (.int v1), .val (.int v2), .val (.int perm), .val (.int k0), .val (.int k1), .val (.int k2), .val (.int j), .val (.int (5 : Int32)), .val (.ref b1), .val (.ref b2), .val (.ref b3), .val (.int (2 : Int32)), .val (.int (1 : Int32)), .val (.int (0 : Int32)), .val (.int k2), .val (.int k1), .val (.int k0), .val (.int v2), .val (.int v1), .val (.int v0), .val (.int ea), .unset, .unset, .unset, .unset, .unset, .unset, .unset]) rfl ?_
  refine WP.iload at_253 rfl (pc' := 255) rfl ?_
  refine WP.iload at_255 rfl (pc' := 257) rfl ?_
  refine WP.iload at_257 rfl (pc' := 259) rfl ?_
  refine WP.iload at_259 rfl (pc' := 261) rfl ?_
  refine WP.callS (y := (⟨"com/example/stampwise/stampwise/history/IntGroupsPlacePinLaw", "below", "(IIII)I"⟩ : MethodName)) (By := B1) (as := [(.int k0), (.int k1), (.int k2), (.int k1)]) (rest := []) at_261 (w2 hw) (w3 hw) (w4 hw) (w5 hw) (by decide) (bel_met hw k0 k1 k2 k1 m0 m1 m2 m1 hk0 hk1 hk2 hk1) pd_0 rfl rfl rfl (by decide) (Nat.le_of_ble_eq_true rfl) (by decide) (by decide) (pc' := 264) rfl ?_
  rintro _ _ ⟨rfl, r1, rfl, hr1⟩
  show WP _ _ _ _ _ _ _ _ _ _ [(.int r1)]
  refine WP.iload at_264 rfl (pc' := 266) rfl ?_
  refine WP.iload at_266 rfl (pc' := 268) rfl ?_
  refine WP.callS (y := (⟨"com/example/stampwise/stampwise/history/IntGroupsPlacePinLaw", "same", "(II)I"⟩ : MethodName)) (By := B2) (as := [(.int k2), (.int k1)]) (rest := [(.int r1)]) at_268 (w6 hw) (w7 hw) (w4 hw) (w8 hw) (by decide) (sam_met hw k2 k1 m2 m1 hk2 hk1) pd_1 rfl rfl rfl (by decide) (Nat.le_of_ble_eq_true rfl) (by decide) (by decide) (pc' := 271) rfl ?_
  rintro _ _ ⟨rfl, r2, rfl, hr2⟩
  show WP _ _ _ _ _ _ _ _ _ _ [(.int r2), (.int r1)]
  refine WP.iadd at_271 (pc' := 272) rfl ?_
  obtain ⟨eb, e_eb⟩ : ∃ z, z = (r1 + r2) := ⟨_, rfl⟩
  rw [← e_eb]
  refine WP.istore at_272 (pc' := 274) rfl (ls' := #[.val (.int keys), .val (.int v0), .val (.int v1), .val (.int v2), .val (.int perm), .val (.int k0), .val (.int k1), .val (.int k2), .val (.int j), .val (.int (5 : Int32)), .val (.ref b1), .val (.ref b2), .val (.ref b3), .val (.int (2 : Int32)), .val (.int (1 : Int32)), .val (.int (0 : Int32)), .val (.int k2), .val (.int k1), .val (.int k0), .val (.int v2), .val (.int v1), .val (.int v0), .val (.int ea), .val (.int eb), .unset, .unset, .unset, .unset, .unset, .unset]) rfl ?_
  refine WP.iload at_274 rfl (pc' := 276) rfl ?_
  refine WP.iload at_276 rfl (pc' := 278) rfl ?_
  refine WP.iload at_278 rfl (pc' := 280) rfl ?_
  refine WP.iload at_280 rfl (pc' := 282) rfl ?_
  refine WP.callS (y := (⟨"com/example/stampwise/stampwise/history/IntGroupsPlacePinLaw", "below", "(IIII)I"⟩ : MethodName)) (By := B1) (as := [(.int k0), (.int k1), (.int k2), (.int k0)]) (rest := []) at_282 (w2 hw) (w3 hw) (w4 hw) (w5 hw) (by decide) (bel_met hw k0 k1 k2 k0 m0 m1 m2 m0 hk0 hk1 hk2 hk0) pd_0 rfl rfl rfl (by decide) (Nat.le_of_ble_eq_true rfl) (by decide) (by decide) (pc' := 285) rfl ?_
  rintro _ _ ⟨rfl, r3, rfl, hr3⟩
  show WP _ _ _ _ _ _ _ _ _ _ [(.int r3)]
  refine WP.iload at_285 rfl (pc' := 287) rfl ?_
  refine WP.iload at_287 rfl (pc' := 289) rfl ?_
  refine WP.callS (y := (⟨"com/example/stampwise/stampwise/history/IntGroupsPlacePinLaw", "same", "(II)I"⟩ : MethodName)) (By := B2) (as := [(.int k2), (.int k0)]) (rest := [(.int r3)]) at_289 (w6 hw) (w7 hw) (w4 hw) (w8 hw) (by decide) (sam_met hw k2 k0 m2 m0 hk2 hk0) pd_1 rfl rfl rfl (by decide) (Nat.le_of_ble_eq_true rfl) (by decide) (by decide) (pc' := 292) rfl ?_
  rintro _ _ ⟨rfl, r4, rfl, hr4⟩
  show WP _ _ _ _ _ _ _ _ _ _ [(.int r4), (.int r3)]
  refine WP.iadd at_292 (pc' := 293) rfl ?_
  refine WP.iload at_293 rfl (pc' := 295) rfl ?_
  refine WP.iload at_295 rfl (pc' := 297) rfl ?_
  refine WP.callS (y := (⟨"com/example/stampwise/stampwise/history/IntGroupsPlacePinLaw", "same", "(II)I"⟩ : MethodName)) (By := B2) (as := [(.int k1), (.int k0)]) (rest := [(.int (r3 + r4))]) at_297 (w6 hw) (w7 hw) (w4 hw) (w8 hw) (by decide) (sam_met hw k1 k0 m1 m0 hk1 hk0) pd_1 rfl rfl rfl (by decide) (Nat.le_of_ble_eq_true rfl) (by decide) (by decide) (pc' := 300) rfl ?_
  rintro _ _ ⟨rfl, r5, rfl, hr5⟩
  show WP _ _ _ _ _ _ _ _ _ _ [(.int r5), (.int (r3 + r4))]
  refine WP.iadd at_300 (pc' := 301) rfl ?_
  obtain ⟨ec, e_ec⟩ : ∃ z, z = ((r3 + r4) + r5) := ⟨_, rfl⟩
  rw [← e_ec]
  refine WP.istore at_301 (pc' := 303) rfl (ls' := #[.val (.int keys), .val (.int v0), .val (.int v1), .val (.int v2), .val (.int perm), .val (.int k0), .val (.int k1), .val (.int k2), .val (.int j), .val (.int (5 : Int32)), .val (.ref b1), .val (.ref b2), .val (.ref b3), .val (.int (2 : Int32)), .val (.int (1 : Int32)), .val (.int (0 : Int32)), .val (.int k2), .val (.int k1), .val (.int k0), .val (.int v2), .val (.int v1), .val (.int v0), .val (.int ea), .val (.int eb), .val (.int ec), .unset, .unset, .unset, .unset, .unset]) rfl ?_
  have bb (a b d k : Nat) : bel a b d k ≤ 3 := by simp only [bel]; split <;> split <;> split <;> omega
  have ss (a b : Nat) : sam a b ≤ 1 := by simp only [sam]; split <;> omega
  have y1 := bb m0 m1 m2 m1
  have y2 := ss m2 m1
  have y3 := bb m0 m1 m2 m0
  have y4 := ss m2 m0
  have y5 := ss m1 m0
  have feb : eb.toInt = ((bel m0 m1 m2 m1 + sam m2 m1 : Nat) : Int) := by rw [e_eb, own_iadd] <;> omega
  have fe1 : (r3 + r4).toInt = r3.toInt + r4.toInt := by rw [own_iadd] <;> omega
  have fec : ec.toInt = ((bel m0 m1 m2 m0 + sam m2 m0 + sam m1 m0 : Nat) : Int) := by rw [e_ec, own_iadd] <;> omega
  obtain ⟨⟨p1, p2, p3, p4, p5, p6, p7, p8, p9, p10, p11, p12, p13⟩, pj⟩ := pure_5 ⟨m0, l0⟩ ⟨m1, l1⟩ ⟨m2, l2⟩
  obtain ⟨pj1, pj2⟩ := pj ⟨mj, lj⟩
  simp only at p1 p2 p3 p4 p5 p6 p7 p8 p9 p10 p11 p12 p13 pj1 pj2
  clear bb ss y1 y2 y3 y4 y5 fe1
  refine WP.newobj (lay := L_IG) (vs := [.null, .null]) at_303 (w9 hw) (w10 hw) (w11 hw) (lay_IG hw) rfl (by decide) (by decide) (pc' := 306) rfl ?_
  intro g h61 eb_g g_g K62 O_g
  have lt_b1_g : b1 < g := by rw [eb_g]; exact A_b1.lt
  have lt_b2_g : b2 < g := by rw [eb_g]; exact A_b2.lt
  have lt_b3_g : b3 < g := by rw [eb_g]; exact A_b3.lt
  replace A_b1 := A_b1.keep K62 own_nil
  replace A_b2 := A_b2.keep K62 own_nil
  replace A_b3 := A_b3.keep K62 own_nil
  refine WP.dup at_306 rfl (pc' := 307) rfl ?_
  refine WP.iconst at_307 (z := (4 : Int32)) rfl (pc' := 308) rfl ?_
  refine WP.callI (a := g) (y := (⟨"com/example/stampwise/stampwise/history/IntGroups", "<init>", "(I)V"⟩ : MethodName)) (By := B3) (as := [(.int (4 : Int32))]) (rest := [(.ref g)]) at_308 (w12 hw) (w13 hw) (w11 hw) (w14 hw) rfl rfl (by decide) (ini_met hw g g_g O_g) pd_2 rfl rfl rfl (by decide) (Nat.le_of_ble_eq_true rfl) (by decide) (by decide) (pc' := 311) rfl ?_
  rintro _ h63 ⟨rfl, hI⟩
  show WP _ _ _ _ _ _ _ _ _ _ [(.ref g)]
  refine WP.astore at_311 (pc' := 313) rfl rfl (ls' := #[.val (.int keys), .val (.int v0), .val (.int v1), .val (.int v2), .val (.int perm), .val (.int k0), .val (.int k1), .val (.int k2), .val (.int j), .val (.int (5 : Int32)), .val (.ref b1), .val (.ref b2), .val (.ref b3), .val (.int (2 : Int32)), .val (.int (1 : Int32)), .val (.int (0 : Int32)), .val (.int k2), .val (.int k1), .val (.int k0), .val (.int v2), .val (.int v1), .val (.int v0), .val (.int ea), .val (.int eb), .val (.int ec), .val (.ref g), .unset, .unset, .unset, .unset]) rfl ?_
  refine WP.aload at_313 rfl rfl (pc' := 315) rfl ?_
  refine WP.iload at_315 rfl (pc' := 317) rfl ?_
  refine WP.callV (a := g) (z := (⟨"com/example/stampwise/stampwise/history/IntGroups", "count", "(I)V"⟩ : MethodName)) (Cl := "com/example/stampwise/stampwise/history/IntGroups") (y := (⟨"com/example/stampwise/stampwise/history/IntGroups", "count", "(I)V"⟩ : MethodName)) (By := B5) (as := [(.int k0)]) (rest := []) at_317 (w20 hw) (w21 hw) (w23 hw) (w22 hw) (w11 hw) (w24 hw) rfl rfl (by decide) hI.exa (cou_met hw g k0 m0 _ hI hk0 l0 p1) pd_2 rfl rfl rfl (by decide) (Nat.le_of_ble_eq_true rfl) (by decide) (by decide) (pc' := 320) rfl ?_
  rintro _ h64 ⟨rfl, hI⟩
  show WP _ _ _ _ _ _ _ _ _ _ []
  refine WP.aload at_320 rfl rfl (pc' := 322) rfl ?_
  refine WP.iload at_322 rfl (pc' := 324) rfl ?_
  refine WP.callV (a := g) (z := (⟨"com/example/stampwise/stampwise/history/IntGroups", "count", "(I)V"⟩ : MethodName)) (Cl := "com/example/stampwise/stampwise/history/IntGroups") (y := (⟨"com/example/stampwise/stampwise/history/IntGroups", "count", "(I)V"⟩ : MethodName)) (By := B5) (as := [(.int k1)]) (rest := []) at_324 (w20 hw) (w21 hw) (w23 hw) (w22 hw) (w11 hw) (w24 hw) rfl rfl (by decide) hI.exa (cou_met hw g k1 m1 _ hI hk1 l1 p2) pd_2 rfl rfl rfl (by decide) (Nat.le_of_ble_eq_true rfl) (by decide) (by decide) (pc' := 327) rfl ?_
  rintro _ h65 ⟨rfl, hI⟩
  show WP _ _ _ _ _ _ _ _ _ _ []
  refine WP.aload at_327 rfl rfl (pc' := 329) rfl ?_
  refine WP.iload at_329 rfl (pc' := 331) rfl ?_
  refine WP.callV (a := g) (z := (⟨"com/example/stampwise/stampwise/history/IntGroups", "count", "(I)V"⟩ : MethodName)) (Cl := "com/example/stampwise/stampwise/history/IntGroups") (y := (⟨"com/example/stampwise/stampwise/history/IntGroups", "count", "(I)V"⟩ : MethodName)) (By := B5) (as := [(.int k2)]) (rest := []) at_331 (w20 hw) (w21 hw) (w23 hw) (w22 hw) (w11 hw) (w24 hw) rfl rfl (by decide) hI.exa (cou_met hw g k2 m2 _ hI hk2 l2 p3) pd_2 rfl rfl rfl (by decide) (Nat.le_of_ble_eq_true rfl) (by decide) (by decide) (pc' := 334) rfl ?_
  rintro _ h66 ⟨rfl, hI⟩
  show WP _ _ _ _ _ _ _ _ _ _ []
  refine WP.aload at_334 rfl rfl (pc' := 336) rfl ?_
  refine WP.callV (a := g) (z := (⟨"com/example/stampwise/stampwise/history/IntGroups", "startPlacing", "()V"⟩ : MethodName)) (Cl := "com/example/stampwise/stampwise/history/IntGroups") (y := (⟨"com/example/stampwise/stampwise/history/IntGroups", "startPlacing", "()V"⟩ : MethodName)) (By := B6) (as := []) (rest := []) at_336 (w25 hw) (w26 hw) (w28 hw) (w27 hw) (w11 hw) (w29 hw) rfl rfl (by decide) hI.exa (stp_met hw g _ hI p4) pd_3 rfl rfl rfl (by decide) (Nat.le_of_ble_eq_true rfl) (by decide) (by decide) (pc' := 339) rfl ?_
  rintro _ h67 ⟨rfl, hI⟩
  show WP _ _ _ _ _ _ _ _ _ _ []
  refine WP.aload at_339 rfl rfl (pc' := 341) rfl ?_
  refine WP.iload at_341 rfl (pc' := 343) rfl ?_
  refine WP.iload at_343 rfl (pc' := 345) rfl ?_
  refine WP.callV (a := g) (z := (⟨"com/example/stampwise/stampwise/history/IntGroups", "place", "(II)I"⟩ : MethodName)) (Cl := "com/example/stampwise/stampwise/history/IntGroups") (y := (⟨"com/example/stampwise/stampwise/history/IntGroups", "place", "(II)I"⟩ : MethodName)) (By := B7) (as := [(.int k2), (.int v2)]) (rest := []) at_345 (w36 hw) (w37 hw) (w39 hw) (w38 hw) (w11 hw) (w40 hw) rfl rfl (by decide) hI.exa (plc_met hw g k2 v2 m2 _ _ hI hk2 l2 (by omega) (by simpa using p5)) pd_1 rfl rfl rfl (by decide) (Nat.le_of_ble_eq_true rfl) (by decide) (by decide) (pc' := 348) rfl ?_
  rintro _ h68 ⟨ra, rfl, hra, hI⟩
  show WP _ _ _ _ _ _ _ _ _ _ [(.int ra)]
  refine WP.istore at_348 (pc' := 350) rfl (ls' := #[.val (.int keys), .val (.int v0), .val (.int v1), .val (.int v2), .val (.int perm), .val (.int k0), .val (.int k1), .val (.int k2), .val (.int j), .val (.int (5 : Int32)), .val (.ref b1), .val (.ref b2), .val (.ref b3), .val (.int (2 : Int32)), .val (.int (1 : Int32)), .val (.int (0 : Int32)), .val (.int k2), .val (.int k1), .val (.int k0), .val (.int v2), .val (.int v1), .val (.int v0), .val (.int ea), .val (.int eb), .val (.int ec), .val (.ref g), .val (.int ra), .unset, .unset, .unset]) rfl ?_
  refine WP.aload at_350 rfl rfl (pc' := 352) rfl ?_
  refine WP.iload at_352 rfl (pc' := 354) rfl ?_
  refine WP.iload at_354 rfl (pc' := 356) rfl ?_
  refine WP.callV (a := g) (z := (⟨"com/example/stampwise/stampwise/history/IntGroups", "place", "(II)I"⟩ : MethodName)) (Cl := "com/example/stampwise/stampwise/history/IntGroups") (y := (⟨"com/example/stampwise/stampwise/history/IntGroups", "place", "(II)I"⟩ : MethodName)) (By := B7) (as := [(.int k1), (.int v1)]) (rest := []) at_356 (w36 hw) (w37 hw) (w39 hw) (w38 hw) (w11 hw) (w40 hw) rfl rfl (by decide) hI.exa (plc_met hw g k1 v1 m1 _ _ hI hk1 l1 (by omega) (by simpa using p6)) pd_1 rfl rfl rfl (by decide) (Nat.le_of_ble_eq_true rfl) (by decide) (by decide) (pc' := 359) rfl ?_
  rintro _ h69 ⟨rb, rfl, hrb, hI⟩
  show WP _ _ _ _ _ _ _ _ _ _ [(.int rb)]
  refine WP.istore at_359 (pc' := 361) rfl (ls' := #[.val (.int keys), .val (.int v0), .val (.int v1), .val (.int v2), .val (.int perm), .val (.int k0), .val (.int k1), .val (.int k2), .val (.int j), .val (.int (5 : Int32)), .val (.ref b1), .val (.ref b2), .val (.ref b3), .val (.int (2 : Int32)), .val (.int (1 : Int32)), .val (.int (0 : Int32)), .val (.int k2), .val (.int k1), .val (.int k0), .val (.int v2), .val (.int v1), .val (.int v0), .val (.int ea), .val (.int eb), .val (.int ec), .val (.ref g), .val (.int ra), .val (.int rb), .unset, .unset]) rfl ?_
  refine WP.aload at_361 rfl rfl (pc' := 363) rfl ?_
  refine WP.iload at_363 rfl (pc' := 365) rfl ?_
  refine WP.iload at_365 rfl (pc' := 367) rfl ?_
  refine WP.callV (a := g) (z := (⟨"com/example/stampwise/stampwise/history/IntGroups", "place", "(II)I"⟩ : MethodName)) (Cl := "com/example/stampwise/stampwise/history/IntGroups") (y := (⟨"com/example/stampwise/stampwise/history/IntGroups", "place", "(II)I"⟩ : MethodName)) (By := B7) (as := [(.int k0), (.int v0)]) (rest := []) at_367 (w36 hw) (w37 hw) (w39 hw) (w38 hw) (w11 hw) (w40 hw) rfl rfl (by decide) hI.exa (plc_met hw g k0 v0 m0 _ _ hI hk0 l0 (by omega) (by simpa using p7)) pd_1 rfl rfl rfl (by decide) (Nat.le_of_ble_eq_true rfl) (by decide) (by decide) (pc' := 370) rfl ?_
  rintro _ h70 ⟨rc, rfl, hrc, hI⟩
  show WP _ _ _ _ _ _ _ _ _ _ [(.int rc)]
  refine WP.istore at_370 (pc' := 372) rfl (ls' := #[.val (.int keys), .val (.int v0), .val (.int v1), .val (.int v2), .val (.int perm), .val (.int k0), .val (.int k1), .val (.int k2), .val (.int j), .val (.int (5 : Int32)), .val (.ref b1), .val (.ref b2), .val (.ref b3), .val (.int (2 : Int32)), .val (.int (1 : Int32)), .val (.int (0 : Int32)), .val (.int k2), .val (.int k1), .val (.int k0), .val (.int v2), .val (.int v1), .val (.int v0), .val (.int ea), .val (.int eb), .val (.int ec), .val (.ref g), .val (.int ra), .val (.int rb), .val (.int rc), .unset]) rfl ?_
  refine WP.iload at_372 rfl (pc' := 374) rfl ?_
  refine WP.iload at_374 rfl (pc' := 376) rfl ?_
  refine WP.icmpNe at_376 (tgt := 393) (by decide) (pc' := 379) rfl (fun c376 => ?_) (fun c376 => ?_)
  · exfalso; omega
  refine WP.iload at_379 rfl (pc' := 381) rfl ?_
  refine WP.iload at_381 rfl (pc' := 383) rfl ?_
  refine WP.icmpNe at_383 (tgt := 393) (by decide) (pc' := 386) rfl (fun c383 => ?_) (fun c383 => ?_)
  · exfalso; omega
  refine WP.iload at_386 rfl (pc' := 388) rfl ?_
  refine WP.iload at_388 rfl (pc' := 390) rfl ?_
  refine WP.icmpEq at_390 (tgt := 395) (by decide) (pc' := 393) rfl (fun c390 => ?_) (fun c390 => ?_)
  ·
    refine WP.aload at_395 rfl rfl (pc' := 397) rfl ?_
    refine WP.callV (a := g) (z := (⟨"com/example/stampwise/stampwise/history/IntGroups", "values", "()[I"⟩ : MethodName)) (Cl := "com/example/stampwise/stampwise/history/IntGroups") (y := (⟨"com/example/stampwise/stampwise/history/IntGroups", "values", "()[I"⟩ : MethodName)) (By := B8) (as := []) (rest := []) at_397 (w41 hw) (w42 hw) (w44 hw) (w43 hw) (w11 hw) (w45 hw) rfl rfl (by decide) hI.exa (vls_met hw g _ _ hI) pd_4 rfl rfl rfl (by decide) (Nat.le_of_ble_eq_true rfl) (by decide) (by decide) (pc' := 400) rfl ?_
    rintro _ h71 ⟨wa, rfl, A_wa, hI⟩
    show WP _ _ _ _ _ _ _ _ _ _ [(.ref wa)]
    refine WP.astore at_400 (pc' := 402) rfl rfl (ls' := #[.val (.int keys), .val (.int v0), .val (.int v1), .val (.int v2), .val (.int perm), .val (.int k0), .val (.int k1), .val (.int k2), .val (.int j), .val (.int (5 : Int32)), .val (.ref b1), .val (.ref b2), .val (.ref b3), .val (.int (2 : Int32)), .val (.int (1 : Int32)), .val (.int (0 : Int32)), .val (.int k2), .val (.int k1), .val (.int k0), .val (.int v2), .val (.int v1), .val (.int v0), .val (.int ea), .val (.int eb), .val (.int ec), .val (.ref g), .val (.int ra), .val (.int rb), .val (.int rc), .val (.ref wa)]) rfl ?_
    refine WP.aload at_402 rfl rfl (pc' := 404) rfl ?_
    refine WP.ifnullN at_404 (pc' := 407) rfl ?_
    refine WP.aload at_407 rfl rfl (pc' := 409) rfl ?_
    refine WP.alen at_409 A_wa (k := (3 : Int32)) (by simp) (pc' := 410) rfl ?_
    refine WP.iconst at_410 (z := (3 : Int32)) rfl (pc' := 411) rfl ?_
    refine WP.icmpEq at_411 (tgt := 416) (by decide) (pc' := 414) rfl (fun c411 => ?_) (fun c411 => ?_)
    ·
      obtain ⟨na, hna⟩ : ∃ z, z = (sp (cnt (cnt (cnt [0, 0, 0, 0, 0] m0) m1) m2)).getD (m2 + 1) 0 := ⟨_, rfl⟩
      obtain ⟨nb, hnb⟩ : ∃ z, z = (cnt (sp (cnt (cnt (cnt [0, 0, 0, 0, 0] m0) m1) m2)) m2).getD (m1 + 1) 0 := ⟨_, rfl⟩
      obtain ⟨nc, hnc⟩ : ∃ z, z = (cnt (cnt (sp (cnt (cnt (cnt [0, 0, 0, 0, 0] m0) m1) m2)) m2) m1).getD (m0 + 1) 0 := ⟨_, rfl⟩
      rw [← hna] at A_wa p5 p8 p11 p12
      rw [← hnb] at A_wa p6 p9 p11 p13
      rw [← hnc] at A_wa p7 p10 p12 p13
      refine WP.aload at_416 rfl rfl (pc' := 418) rfl ?_
      refine WP.iload at_418 rfl (pc' := 420) rfl ?_
      refine WP.iaload na at_420 A_wa (x := v2) (by omega) (by rw [List.getElem?_set_ne (by omega), List.getElem?_set_ne (by omega), List.getElem?_set_self (by simpa using p5)]) (pc' := 421) rfl ?_
      refine WP.iload at_421 rfl (pc' := 423) rfl ?_
      refine WP.icmpNe at_423 (tgt := 446) (by decide) (pc' := 426) rfl (fun c423 => ?_) (fun c423 => ?_)
      · exfalso; omega
      refine WP.aload at_426 rfl rfl (pc' := 428) rfl ?_
      refine WP.iload at_428 rfl (pc' := 430) rfl ?_
      refine WP.iaload nb at_430 A_wa (x := v1) (by omega) (by rw [List.getElem?_set_ne (by omega), List.getElem?_set_self (by simpa using p6)]) (pc' := 431) rfl ?_
      refine WP.iload at_431 rfl (pc' := 433) rfl ?_
      refine WP.icmpNe at_433 (tgt := 446) (by decide) (pc' := 436) rfl (fun c433 => ?_) (fun c433 => ?_)
      · exfalso; omega
      refine WP.aload at_436 rfl rfl (pc' := 438) rfl ?_
      refine WP.iload at_438 rfl (pc' := 440) rfl ?_
      refine WP.iaload nc at_440 A_wa (x := v0) (by omega) (by rw [List.getElem?_set_self (by simpa using p7)]) (pc' := 441) rfl ?_
      refine WP.iload at_441 rfl (pc' := 443) rfl ?_
      refine WP.icmpEq at_443 (tgt := 448) (by decide) (pc' := 446) rfl (fun c443 => ?_) (fun c443 => ?_)
      ·
        refine WP.aload at_448 rfl rfl (pc' := 450) rfl ?_
        refine WP.iload at_450 rfl (pc' := 452) rfl ?_
        refine WP.callV (a := g) (z := (⟨"com/example/stampwise/stampwise/history/IntGroups", "start", "(I)I"⟩ : MethodName)) (Cl := "com/example/stampwise/stampwise/history/IntGroups") (y := (⟨"com/example/stampwise/stampwise/history/IntGroups", "start", "(I)I"⟩ : MethodName)) (By := B9) (as := [(.int j)]) (rest := []) at_452 (w46 hw) (w47 hw) (w49 hw) (w48 hw) (w11 hw) (w50 hw) rfl rfl (by decide) hI.exa (sta_met hw g j mj _ _ hI hj lj pj2) pd_5 rfl rfl rfl (by decide) (Nat.le_of_ble_eq_true rfl) (by decide) (by decide) (pc' := 455) rfl ?_
        rintro _ h72 ⟨rs, rfl, hrs⟩
        show WP _ _ _ _ _ _ _ _ _ _ [(.int rs)]
        refine WP.iload at_455 rfl (pc' := 457) rfl ?_
        refine WP.iload at_457 rfl (pc' := 459) rfl ?_
        refine WP.iload at_459 rfl (pc' := 461) rfl ?_
        refine WP.iload at_461 rfl (pc' := 463) rfl ?_
        refine WP.callS (y := (⟨"com/example/stampwise/stampwise/history/IntGroupsPlacePinLaw", "below", "(IIII)I"⟩ : MethodName)) (By := B1) (as := [(.int k0), (.int k1), (.int k2), (.int j)]) (rest := [(.int rs)]) at_463 (w2 hw) (w3 hw) (w4 hw) (w5 hw) (by decide) (bel_met hw k0 k1 k2 j m0 m1 m2 mj hk0 hk1 hk2 hj) pd_0 rfl rfl rfl (by decide) (Nat.le_of_ble_eq_true rfl) (by decide) (by decide) (pc' := 466) rfl ?_
        rintro _ _ ⟨rfl, rb2, rfl, hrb2⟩
        show WP _ _ _ _ _ _ _ _ _ _ [(.int rb2), (.int rs)]
        refine WP.icmpNe at_466 (tgt := 473) (by decide) (pc' := 469) rfl (fun c466 => ?_) (fun c466 => ?_)
        ·
          refine WP.iconst at_473 (z := (0 : Int32)) rfl (pc' := 474) rfl ?_
          exact WP.retN at_474 (t := .boolean) rfl (by simp) (by decide) (by decide) (by exfalso; omega)
        refine WP.iconst at_469 (z := (1 : Int32)) rfl (pc' := 470) rfl ?_
        refine WP.goto at_470 (pc' := 474) (by decide) ?_
        exact WP.retN at_474 (t := .boolean) rfl (by simp) (by decide) (by decide) own_q1
      exfalso; omega
    exfalso; omega
  exfalso; omega
theorem law_met {l : Launch} {Z : State} {a0 : Array Value} (hw : HW Z a0) {n0 : Nat} {h : Heap} (keys v0 v1 v2 perm : Int32) : OMet l x B0 Z n0 #[(.int keys), (.int v0), (.int v1), (.int v2), (.int perm)] h (fun v h' => v = some (.int 1)) := by
  refine OMet.of_wp (ls0 := #[.val (.int keys), .val (.int v0), .val (.int v1), .val (.int v2), .val (.int perm), .unset, .unset, .unset, .unset, .unset, .unset, .unset, .unset, .unset, .unset, .unset, .unset, .unset, .unset, .unset, .unset, .unset, .unset, .unset, .unset, .unset, .unset, .unset, .unset, .unset]) pl0 rfl rfl (fun m => own_entry 25 rfl rfl) ?_
  have k32_0 : (0 : Int32).toInt = 0 := by decide
  have k32_1 : (1 : Int32).toInt = 1 := by decide
  have k32_2 : (2 : Int32).toInt = 2 := by decide
  have k32_3 : (3 : Int32).toInt = 3 := by decide
  have k32_4 : (4 : Int32).toInt = 4 := by decide
  have k32_5 : (5 : Int32).toInt = 5 := by decide
  have k32_6 : (6 : Int32).toInt = 6 := by decide
  have k32_7 : (7 : Int32).toInt = 7 := by decide
  have k32_2147483647 : (2147483647 : Int32).toInt = 2147483647 := by decide
  refine WP.iloadN at_0 rfl (pc' := 1) rfl ?_
  refine WP.iconst at_1 (z := (3 : Int32)) rfl (pc' := 2) rfl ?_
  refine WP.iand at_2 (pc' := 3) rfl ?_
  obtain ⟨k0, e_k0⟩ : ∃ z, z = (keys &&& (3 : Int32)) := ⟨_, rfl⟩
  rw [← e_k0]
  refine WP.istore at_3 (pc' := 5) rfl (ls' := #[.val (.int keys), .val (.int v0), .val (.int v1), .val (.int v2), .val (.int perm), .val (.int k0), .unset, .unset, .unset, .unset, .unset, .unset, .unset, .unset, .unset, .unset, .unset, .unset, .unset, .unset, .unset, .unset, .unset, .unset, .unset, .unset, .unset, .unset, .unset, .unset]) rfl ?_
  have f_k0 : k0.toInt = (keys).toInt % 4 := by rw [e_k0]; exact own_mask _ _ 2 _ (by decide) (by decide) (by decide)
  obtain ⟨m0, hk0⟩ : ∃ z : Nat, k0.toInt = (z : Int) := ⟨k0.toInt.toNat, by omega⟩
  refine WP.iloadN at_5 rfl (pc' := 6) rfl ?_
  refine WP.iconst at_6 (z := (2 : Int32)) rfl (pc' := 7) rfl ?_
  refine WP.iushr at_7 (pc' := 8) rfl ?_
  refine WP.iconst at_8 (z := (3 : Int32)) rfl (pc' := 9) rfl ?_
  refine WP.iand at_9 (pc' := 10) rfl ?_
  obtain ⟨k1, e_k1⟩ : ∃ z, z = ((ushr keys (2 : Int32)) &&& (3 : Int32)) := ⟨_, rfl⟩
  rw [← e_k1]
  refine WP.istore at_10 (pc' := 12) rfl (ls' := #[.val (.int keys), .val (.int v0), .val (.int v1), .val (.int v2), .val (.int perm), .val (.int k0), .val (.int k1), .unset, .unset, .unset, .unset, .unset, .unset, .unset, .unset, .unset, .unset, .unset, .unset, .unset, .unset, .unset, .unset, .unset, .unset, .unset, .unset, .unset, .unset, .unset]) rfl ?_
  have f_k1 : k1.toInt = (ushr keys (2 : Int32)).toInt % 4 := by rw [e_k1]; exact own_mask _ _ 2 _ (by decide) (by decide) (by decide)
  obtain ⟨m1, hk1⟩ : ∃ z : Nat, k1.toInt = (z : Int) := ⟨k1.toInt.toNat, by omega⟩
  refine WP.iloadN at_12 rfl (pc' := 13) rfl ?_
  refine WP.iconst at_13 (z := (4 : Int32)) rfl (pc' := 14) rfl ?_
  refine WP.iushr at_14 (pc' := 15) rfl ?_
  refine WP.iconst at_15 (z := (3 : Int32)) rfl (pc' := 16) rfl ?_
  refine WP.iand at_16 (pc' := 17) rfl ?_
  obtain ⟨k2, e_k2⟩ : ∃ z, z = ((ushr keys (4 : Int32)) &&& (3 : Int32)) := ⟨_, rfl⟩
  rw [← e_k2]
  refine WP.istore at_17 (pc' := 19) rfl (ls' := #[.val (.int keys), .val (.int v0), .val (.int v1), .val (.int v2), .val (.int perm), .val (.int k0), .val (.int k1), .val (.int k2), .unset, .unset, .unset, .unset, .unset, .unset, .unset, .unset, .unset, .unset, .unset, .unset, .unset, .unset, .unset, .unset, .unset, .unset, .unset, .unset, .unset, .unset]) rfl ?_
  have f_k2 : k2.toInt = (ushr keys (4 : Int32)).toInt % 4 := by rw [e_k2]; exact own_mask _ _ 2 _ (by decide) (by decide) (by decide)
  obtain ⟨m2, hk2⟩ : ∃ z : Nat, k2.toInt = (z : Int) := ⟨k2.toInt.toNat, by omega⟩
  refine WP.iloadN at_19 rfl (pc' := 20) rfl ?_
  refine WP.bipush at_20 (z := (6 : Int32)) rfl (pc' := 22) rfl ?_
  refine WP.iushr at_22 (pc' := 23) rfl ?_
  refine WP.bipush at_23 (z := (7 : Int32)) rfl (pc' := 25) rfl ?_
  refine WP.iand at_25 (pc' := 26) rfl ?_
  refine WP.iconst at_26 (z := (5 : Int32)) rfl (pc' := 27) rfl ?_
  refine WP.irem at_27 (by decide) (pc' := 28) rfl ?_
  obtain ⟨j, e_j⟩ : ∃ z, z = (((ushr keys (6 : Int32)) &&& (7 : Int32)) % (5 : Int32)) := ⟨_, rfl⟩
  rw [← e_j]
  refine WP.istore at_28 (pc' := 30) rfl (ls' := #[.val (.int keys), .val (.int v0), .val (.int v1), .val (.int v2), .val (.int perm), .val (.int k0), .val (.int k1), .val (.int k2), .val (.int j), .unset, .unset, .unset, .unset, .unset, .unset, .unset, .unset, .unset, .unset, .unset, .unset, .unset, .unset, .unset, .unset, .unset, .unset, .unset, .unset, .unset]) rfl ?_
  have f1 : ((ushr keys (6 : Int32)) &&& (7 : Int32)).toInt = (ushr keys (6 : Int32)).toInt % 8 := own_mask _ _ 3 _ (by decide) (by decide) (by decide)
  have f2 : j.toInt = ((ushr keys (6 : Int32)) &&& (7 : Int32)).toInt % 5 := by rw [e_j]; exact own_irem (by decide) (by omega)
  obtain ⟨mj, hj⟩ : ∃ z : Nat, j.toInt = (z : Int) := ⟨j.toInt.toNat, by omega⟩
  refine WP.iload at_30 rfl (pc' := 32) rfl ?_
  refine WP.ldcI at_32 (w0 hw) (pc' := 34) rfl ?_
  refine WP.iand at_34 (pc' := 35) rfl ?_
  refine WP.bipush at_35 (z := (6 : Int32)) rfl (pc' := 37) rfl ?_
  refine WP.irem at_37 (by decide) (pc' := 38) rfl ?_
  obtain ⟨p, e_p⟩ : ∃ z, z = ((perm &&& (2147483647 : Int32)) % (6 : Int32)) := ⟨_, rfl⟩
  rw [← e_p]
  refine WP.istore at_38 (pc' := 40) rfl (ls' := #[.val (.int keys), .val (.int v0), .val (.int v1), .val (.int v2), .val (.int perm), .val (.int k0), .val (.int k1), .val (.int k2), .val (.int j), .val (.int p), .unset, .unset, .unset, .unset, .unset, .unset, .unset, .unset, .unset, .unset, .unset, .unset, .unset, .unset, .unset, .unset, .unset, .unset, .unset, .unset]) rfl ?_
  have f3 : (perm &&& (2147483647 : Int32)).toInt = perm.toInt % 2147483648 := own_mask _ _ 31 _ (by decide) (by decide) (by decide)
  have f4 : p.toInt = (perm &&& (2147483647 : Int32)).toInt % 6 := by rw [e_p]; exact own_irem (by decide) (by omega)
  rcases (by omega : p.toInt = 0 ∨ p.toInt = 1 ∨ p.toInt = 2 ∨ p.toInt = 3 ∨ p.toInt = 4 ∨ p.toInt = 5) with hp | hp | hp | hp | hp | hp
  · rw [show p = (0 : Int32) from own_e32 (by rw [hp]; decide)]; exact law_40_0 hw keys v0 v1 v2 perm k0 k1 k2 j m0 m1 m2 mj hk0 hk1 hk2 hj (by omega) (by omega) (by omega) (by omega)
  · rw [show p = (1 : Int32) from own_e32 (by rw [hp]; decide)]; exact law_40_1 hw keys v0 v1 v2 perm k0 k1 k2 j m0 m1 m2 mj hk0 hk1 hk2 hj (by omega) (by omega) (by omega) (by omega)
  · rw [show p = (2 : Int32) from own_e32 (by rw [hp]; decide)]; exact law_40_2 hw keys v0 v1 v2 perm k0 k1 k2 j m0 m1 m2 mj hk0 hk1 hk2 hj (by omega) (by omega) (by omega) (by omega)
  · rw [show p = (3 : Int32) from own_e32 (by rw [hp]; decide)]; exact law_40_3 hw keys v0 v1 v2 perm k0 k1 k2 j m0 m1 m2 mj hk0 hk1 hk2 hj (by omega) (by omega) (by omega) (by omega)
  · rw [show p = (4 : Int32) from own_e32 (by rw [hp]; decide)]; exact law_40_4 hw keys v0 v1 v2 perm k0 k1 k2 j m0 m1 m2 mj hk0 hk1 hk2 hj (by omega) (by omega) (by omega) (by omega)
  · rw [show p = (5 : Int32) from own_e32 (by rw [hp]; decide)]; exact law_40_5 hw keys v0 v1 v2 perm k0 k1 k2 j m0 m1 m2 mj hk0 hk1 hk2 hj (by omega) (by omega) (by omega) (by omega)
theorem comes_1 {Post : Tables → Env → Array Value → State → Outcome → State → Prop} (hpost : ∀ tb e args s v u, (limb_1_1.after args s (.returned v) u = true ∧ limb_1_2.after args s (.returned v) u = true ∧ True) → FrameEnd s (.returned v) u (Jvm.fieldLocs frame_1_writes args s ++ Jvm.arrayLocs frame_1_arrays args s ++ Jvm.staticLocs frame_1_statics s) 24 192 → Post tb e args s (.returned v) u) :
    ArmFor flags0 classFile x code maxLocals ret World_1 tables_1 room_1 Calls_1 rest_1 Pre_1 Post := by
  intro l hfl _ _ p e ha hc hk s m args below hf hA hF happ hP
  obtain ⟨hcalls, hrest, hpre⟩ := hP
  obtain ⟨-, -, -, hnamed, -, -, -, hat⟩ := (Spec.applies_iff hf).mp happ
  obtain ⟨hg, hn⟩ := and_e (Cond.before_iff.mp (show (Jvm.Cond.and given_1 narrow_1).before args s = true from hpre))
  obtain ⟨q0, g0⟩ := and_e hg
  obtain ⟨a0, a1, a2, a3, a4, rfl⟩ : ∃ (a0 : Value) (a1 : Value) (a2 : Value) (a3 : Value) (a4 : Value), args = #[a0, a1, a2, a3, a4] := by
    have hs : args.size = 5 := by simpa [Cond.value, given_1] using q0
    obtain ⟨L⟩ := args
    match L, hs with
    | [a0, a1, a2, a3, a4], _ => exact ⟨a0, a1, a2, a3, a4, rfl⟩
  have hw : HW s #[a0, a1, a2, a3, a4] := fun d (hd : d ∈ tables_1) => atoms_spec (ws := Jvm.Cond.code x code maxLocals ret :: tables_1) hat d (List.mem_cons_of_mem _ hd)
  obtain ⟨p0, g1⟩ := and_e g0
  obtain ⟨i0, z0⟩ := is_v p0
  obtain rfl : a0 = (.int i0) := Option.some.inj z0
  obtain ⟨p1, g2⟩ := and_e g1
  obtain ⟨i1, z1⟩ := is_v p1
  obtain rfl : a1 = (.int i1) := Option.some.inj z1
  obtain ⟨p2, g3⟩ := and_e g2
  obtain ⟨i2, z2⟩ := is_v p2
  obtain rfl : a2 = (.int i2) := Option.some.inj z2
  obtain ⟨p3, g4⟩ := and_e g3
  obtain ⟨i3, z3⟩ := is_v p3
  obtain rfl : a3 = (.int i3) := Option.some.inj z3
  obtain ⟨i4, z4⟩ := is_v g4
  obtain rfl : a4 = (.int i4) := Option.some.inj z4
  obtain ⟨n, o, h1, h2, h3, _, L, rfl, ⟨rfl, N, -⟩, hq⟩ := law_met hw i0 i1 i2 i3 i4 (Nat.le_refl _) tables_1 p e ha hc hk s m _ below hf ((Spec.applies_iff_loose hf).mp happ).1 ⟨rfl, State.Warmed39.refl s, rfl⟩ trivial
  refine ⟨n, _, h1, h2, h3, hpost _ _ _ _ _ _ ⟨Cond.after_iff.mpr rfl, Cond.after_iff.mpr (eq_i res_at (Term.int_eval (1)) rfl), trivial⟩ ⟨hq.1, hq.2.1, (hq.2.2.sift fun y hy => Or.inr (N y hy)).mono (by decide) (by decide)⟩⟩
theorem main_1_1 : Claimed_1_1 := comes_1 fun _ _ _ _ _ _ h hF => ⟨h.1, hF⟩
theorem main_1_2 : Claimed_1_2 := comes_1 fun _ _ _ _ _ _ h hF => ⟨h.2.1, hF⟩
end Jvm.Pilot.@@N@@
namespace Jvm.Pilot.@@N@@
open Jvm Jvm.ClassFile Sem Op Lib Jvm.Free Jvm.Stand Jvm.Pilot.@@N@@.Jvm.D
/-! MADE BY PROGRAM (witnessworld.py) out of the Statement's table words and the real class files: 10 classes; the members and pool entries that the words name. The judged class is class 1, her method 3. -/
namespace start1
open Jvm.ClassFile
def u (s : String) : CpInfo := .utf8 (stringToUtf16 s)
/-- a pool by its gaps: so many unusable entries, then the entry; so many at the end -/
def gap : Nat → List CpInfo → List CpInfo
  | 0, r => r
  | n + 1, r => .unusable :: gap n r
def poolList (es : List (Nat × CpInfo)) (last : Nat) : List CpInfo := es.foldr (fun e r => gap e.1 (e.2 :: r)) (gap last [])
def pool (es : List (Nat × CpInfo)) (last : Nat) : Array CpInfo := ⟨poolList es last⟩
def fileOf (pool : Array CpInfo) (this : Nat) (attrs : Array Attribute := #[]) (ms : Array MethodInfo := #[]) (fl : Nat := 33) (sup : Nat := 0) (ifs : Array Nat := #[]) (fds : Array FieldInfo := #[]) : ClassFile where
  minorVersion := 0
  majorVersion := 65
  constantPool := pool
  accessFlags := fl
  thisClass := this
  superClass := sup
  interfaces := ifs
  fields := fds
  methods := ms
  attributes := attrs
def plain (name : String) (sup : Option ClassId) : Class where
  name := name
  kind := .ordinary
  loader := none
  accessFlags := 33
  super := sup
  interfaces := #[]
  cf := none
  fields := #[]
  methods := #[]
  instanceTypes := #[]
  staticTypes := #[]
  resolved := #[]
  callSites := []
  init := .initialized
  statics := none
  mirror := none

def pool0 : Array CpInfo := pool [(5, u "<init>"), (0, u "()V"), (1, .class_ 10), (1, u "java/lang/Object")] 113

def k0c0 : Code := { maxStack := 0, maxLocals := 1, code := object_method_1_code, exceptionTable := #[], attributes := #[] }
def k0m0 : Method := { name := "<init>", desc := "()V", sig := { parameters := [], returnType := none }, accessFlags := 1, code := some k0c0 }
/-- java/lang/Object -/
def k0 : Class := { plain "java/lang/Object" none with
  accessFlags := 33
  interfaces := #[]
  cf := some (fileOf pool0 8 #[] #[{ accessFlags := 1, nameIndex := 5, descriptorIndex := 6, attributes := #[] }] 33 0 #[] #[])
  fields := #[]
  methods := #[k0m0]
  instanceTypes := #[]
  staticTypes := #[]
  resolved := Array.replicate 124 none
  statics := none }

def pool1 : Array CpInfo := pool [(2, .class_ 4), (1, u "java/lang/Object"), (0, u "<init>"), (0, u "()V"), (0, .integer 2147483647), (0, .methodref 9 10), (0, .class_ 11), (0, .nameAndType 12 13), (0, u "com/example/stampwise/stampwise/history/IntGroupsPlacePinLaw"), (0, u "below"), (0, u "(IIII)I"), (0, .methodref 9 15), (0, .nameAndType 16 17), (0, u "same"), (0, u "(II)I"), (0, .class_ 19), (0, u "com/example/stampwise/stampwise/history/IntGroups"), (0, .methodref 18 21), (0, .nameAndType 5 22), (0, u "(I)V"), (0, .methodref 18 24), (0, .nameAndType 25 22), (0, u "count"), (0, .methodref 18 27), (0, .nameAndType 28 6), (0, u "startPlacing"), (0, .methodref 18 30), (0, .nameAndType 31 17), (0, u "place"), (0, .methodref 18 33), (0, .nameAndType 34 35), (0, u "values"), (0, u "()[I"), (0, .methodref 18 37), (0, .nameAndType 38 39), (0, u "start"), (0, u "(I)I"), (3, u "law"), (0, u "(IIIII)Z")] 4

def k1m0 : Method := { name := "<init>", desc := "()V", sig := { parameters := [], returnType := none }, accessFlags := 1, code := none }
def k1c1 : Code := { maxStack := 3, maxLocals := 4, code := method_2_code, exceptionTable := #[], attributes := #[] }
def k1m1 : Method := { name := "below", desc := "(IIII)I", sig := { parameters := [.int, .int, .int, .int], returnType := some .int }, accessFlags := 10, code := some k1c1 }
def k1c2 : Code := { maxStack := 2, maxLocals := 2, code := method_3_code, exceptionTable := #[], attributes := #[] }
def k1m2 : Method := { name := "same", desc := "(II)I", sig := { parameters := [.int, .int], returnType := some .int }, accessFlags := 10, code := some k1c2 }
def k1c3 : Code := { maxStack := 5, maxLocals := 30, code := code, exceptionTable := #[], attributes := #[] }
def k1m3 : Method := { name := "law", desc := "(IIIII)Z", sig := { parameters := [.int, .int, .int, .int, .int], returnType := some .boolean }, accessFlags := 9, code := some k1c3 }
/-- com/example/stampwise/stampwise/history/IntGroupsPlacePinLaw -/
def k1 : Class := { plain "com/example/stampwise/stampwise/history/IntGroupsPlacePinLaw" (some 0) with
  accessFlags := 49
  interfaces := #[]
  cf := some (fileOf pool1 9 #[] #[{ accessFlags := 1, nameIndex := 5, descriptorIndex := 6, attributes := #[] }, { accessFlags := 10, nameIndex := 12, descriptorIndex := 13, attributes := #[] }, { accessFlags := 10, nameIndex := 16, descriptorIndex := 17, attributes := #[] }, { accessFlags := 9, nameIndex := 43, descriptorIndex := 44, attributes := #[] }] 49 2 #[] #[])
  fields := #[]
  methods := #[k1m0, k1m1, k1m2, k1m3]
  instanceTypes := #[]
  staticTypes := #[]
  resolved := Array.replicate 49 none
  statics := none }

def pool2 : Array CpInfo := pool [(1, .methodref 2 3), (0, .class_ 4), (0, .nameAndType 5 6), (0, u "java/lang/Object"), (0, u "<init>"), (0, u "()V"), (0, .fieldref 8 9), (0, .class_ 10), (0, .nameAndType 11 12), (0, u "com/example/stampwise/stampwise/history/IntGroups"), (0, u "starts"), (0, u "[I"), (0, .fieldref 8 14), (0, .nameAndType 15 12), (0, u "values"), (0, .methodref 17 18), (0, .class_ 19), (0, .nameAndType 20 21), (0, u "java/lang/System"), (0, u "arraycopy"), (0, u "(Ljava/lang/Object;ILjava/lang/Object;II)V"), (7, u "(I)V"), (2, u "count"), (0, u "startPlacing"), (1, u "place"), (0, u "(II)I"), (0, u "start"), (0, u "(I)I"), (1, u "()[I")] 3

def k2c0 : Code := { maxStack := 3, maxLocals := 2, code := prog_113_method_1_code, exceptionTable := #[], attributes := #[] }
def k2m0 : Method := { name := "<init>", desc := "(I)V", sig := { parameters := [.int], returnType := none }, accessFlags := 0, code := some k2c0 }
def k2c1 : Code := { maxStack := 4, maxLocals := 2, code := prog_113_method_2_code, exceptionTable := #[], attributes := #[] }
def k2m1 : Method := { name := "count", desc := "(I)V", sig := { parameters := [.int], returnType := none }, accessFlags := 0, code := some k2c1 }
def k2c2 : Code := { maxStack := 6, maxLocals := 2, code := prog_113_method_3_code, exceptionTable := #[], attributes := #[] }
def k2m2 : Method := { name := "startPlacing", desc := "()V", sig := { parameters := [], returnType := none }, accessFlags := 0, code := some k2c2 }
def k2c3 : Code := { maxStack := 4, maxLocals := 4, code := prog_113_method_4_code, exceptionTable := #[], attributes := #[] }
def k2m3 : Method := { name := "place", desc := "(II)I", sig := { parameters := [.int, .int], returnType := some .int }, accessFlags := 0, code := some k2c3 }
def k2c4 : Code := { maxStack := 2, maxLocals := 2, code := prog_113_method_5_code, exceptionTable := #[], attributes := #[] }
def k2m4 : Method := { name := "start", desc := "(I)I", sig := { parameters := [.int], returnType := some .int }, accessFlags := 0, code := some k2c4 }
def k2c5 : Code := { maxStack := 1, maxLocals := 1, code := prog_113_method_7_code, exceptionTable := #[], attributes := #[] }
def k2m5 : Method := { name := "values", desc := "()[I", sig := { parameters := [], returnType := some (.array .int) }, accessFlags := 0, code := some k2c5 }
/-- com/example/stampwise/stampwise/history/IntGroups -/
def k2 : Class := { plain "com/example/stampwise/stampwise/history/IntGroups" (some 0) with
  accessFlags := 48
  interfaces := #[]
  cf := some (fileOf pool2 8 #[] #[{ accessFlags := 0, nameIndex := 5, descriptorIndex := 29, attributes := #[] }, { accessFlags := 0, nameIndex := 32, descriptorIndex := 29, attributes := #[] }, { accessFlags := 0, nameIndex := 33, descriptorIndex := 6, attributes := #[] }, { accessFlags := 0, nameIndex := 35, descriptorIndex := 36, attributes := #[] }, { accessFlags := 0, nameIndex := 37, descriptorIndex := 38, attributes := #[] }, { accessFlags := 0, nameIndex := 15, descriptorIndex := 40, attributes := #[] }] 48 2 #[] #[{ accessFlags := 18, nameIndex := 11, descriptorIndex := 12, attributes := #[] }, { accessFlags := 2, nameIndex := 15, descriptorIndex := 12, attributes := #[] }])
  fields := #[{ name := "starts", type := (.array .int), accessFlags := 18, slot := 0, constantValue := 0 }, { name := "values", type := (.array .int), accessFlags := 2, slot := 1, constantValue := 0 }]
  methods := #[k2m0, k2m1, k2m2, k2m3, k2m4, k2m5]
  instanceTypes := #[(.array .int), (.array .int)]
  staticTypes := #[]
  resolved := Array.replicate 44 none
  statics := none }

def pool3 : Array CpInfo := pool [(2, .class_ 4), (1, u "java/lang/Object"), (0, u "<init>"), (0, u "()V"), (1, .class_ 10), (1, u "java/lang/System"), (0, u "allowSecurityManager"), (0, u "I"), (16, u "cons"), (0, u "Ljava/io/Console;"), (77, .class_ 110), (1, u "java/lang/System$CallersHolder"), (43, u "initialErrStream"), (0, u "Ljava/io/PrintStream;"), (19, u "security"), (0, u "Ljava/lang/SecurityManager;"), (31, .class_ 209), (0, u "java/lang/System$1"), (7, u "props"), (0, u "Ljava/util/Properties;"), (2, u "lineSeparator"), (0, u "Ljava/lang/String;"), (96, .class_ 321), (1, u "java/lang/System$LoggerFinder"), (5, .class_ 328), (0, u "java/lang/System$Logger"), (67, u "err"), (2, u "out"), (91, u "notSupportedJnuEncoding"), (15, u "in"), (17, u "initialIn"), (0, u "Ljava/io/InputStream;"), (35, u "bootLayer"), (0, u "Ljava/lang/ModuleLayer;"), (99, .class_ 664), (0, u "java/lang/System$2"), (9, u "NEVER"), (2, u "MAYBE"), (49, u "arraycopy"), (0, u "(Ljava/lang/Object;ILjava/lang/Object;II)V"), (72, .class_ 802), (0, u "java/lang/System$Logger$Level")] 31

def k3m0 : Method := { name := "<init>", desc := "()V", sig := { parameters := [], returnType := none }, accessFlags := 2, code := none }
def k3m1 : Method := { name := "arraycopy", desc := "(Ljava/lang/Object;ILjava/lang/Object;II)V", sig := { parameters := [(.object "java/lang/Object"), .int, (.object "java/lang/Object"), .int, .int], returnType := none }, accessFlags := 265, code := none }
/-- java/lang/System -/
def k3 : Class := { plain "java/lang/System" (some 0) with
  accessFlags := 49
  interfaces := #[]
  cf := some (fileOf pool3 8 #[.nestMembers #[319, 327, 801, 108, 663, 208]] #[{ accessFlags := 2, nameIndex := 5, descriptorIndex := 6, attributes := #[] }, { accessFlags := 265, nameIndex := 727, descriptorIndex := 728, attributes := #[] }] 49 2 #[] #[{ accessFlags := 25, nameIndex := 507, descriptorIndex := 526, attributes := #[] }, { accessFlags := 25, nameIndex := 399, descriptorIndex := 155, attributes := #[] }, { accessFlags := 25, nameIndex := 396, descriptorIndex := 155, attributes := #[] }, { accessFlags := 10, nameIndex := 525, descriptorIndex := 526, attributes := #[] }, { accessFlags := 26, nameIndex := 674, descriptorIndex := 12, attributes := #[] }, { accessFlags := 26, nameIndex := 677, descriptorIndex := 12, attributes := #[] }, { accessFlags := 10, nameIndex := 11, descriptorIndex := 12, attributes := #[] }, { accessFlags := 74, nameIndex := 175, descriptorIndex := 176, attributes := #[] }, { accessFlags := 10, nameIndex := 491, descriptorIndex := 222, attributes := #[] }, { accessFlags := 74, nameIndex := 29, descriptorIndex := 30, attributes := #[] }, { accessFlags := 74, nameIndex := 154, descriptorIndex := 155, attributes := #[] }, { accessFlags := 10, nameIndex := 217, descriptorIndex := 218, attributes := #[] }, { accessFlags := 10, nameIndex := 221, descriptorIndex := 222, attributes := #[] }, { accessFlags := 8, nameIndex := 562, descriptorIndex := 563, attributes := #[] }])
  fields := #[{ name := "in", type := (.object "java/io/InputStream"), accessFlags := 25, slot := 0, constantValue := 0 }, { name := "out", type := (.object "java/io/PrintStream"), accessFlags := 25, slot := 1, constantValue := 0 }, { name := "err", type := (.object "java/io/PrintStream"), accessFlags := 25, slot := 2, constantValue := 0 }, { name := "initialIn", type := (.object "java/io/InputStream"), accessFlags := 10, slot := 3, constantValue := 0 }, { name := "NEVER", type := .int, accessFlags := 26, slot := 4, constantValue := 0 }, { name := "MAYBE", type := .int, accessFlags := 26, slot := 5, constantValue := 0 }, { name := "allowSecurityManager", type := .int, accessFlags := 10, slot := 6, constantValue := 0 }, { name := "security", type := (.object "java/lang/SecurityManager"), accessFlags := 74, slot := 7, constantValue := 0 }, { name := "notSupportedJnuEncoding", type := (.object "java/lang/String"), accessFlags := 10, slot := 8, constantValue := 0 }, { name := "cons", type := (.object "java/io/Console"), accessFlags := 74, slot := 9, constantValue := 0 }, { name := "initialErrStream", type := (.object "java/io/PrintStream"), accessFlags := 74, slot := 10, constantValue := 0 }, { name := "props", type := (.object "java/util/Properties"), accessFlags := 10, slot := 11, constantValue := 0 }, { name := "lineSeparator", type := (.object "java/lang/String"), accessFlags := 10, slot := 12, constantValue := 0 }, { name := "bootLayer", type := (.object "java/lang/ModuleLayer"), accessFlags := 8, slot := 13, constantValue := 0 }]
  methods := #[k3m0, k3m1]
  instanceTypes := #[]
  staticTypes := #[(.object "java/io/InputStream"), (.object "java/io/PrintStream"), (.object "java/io/PrintStream"), (.object "java/io/InputStream"), .int, .int, .int, (.object "java/lang/SecurityManager"), (.object "java/lang/String"), (.object "java/io/Console"), (.object "java/io/PrintStream"), (.object "java/util/Properties"), (.object "java/lang/String"), (.object "java/lang/ModuleLayer")]
  resolved := Array.replicate 834 none
  statics := none }

def pool4 : Array CpInfo := pool [(1, u "java/lang/Cloneable"), (0, .class_ 1), (0, u "java/lang/Object"), (0, .class_ 3)] 3

/-- java/lang/Cloneable -/
def k4 : Class := { plain "java/lang/Cloneable" (some 0) with
  accessFlags := 1537
  interfaces := #[]
  cf := some (fileOf pool4 2 #[] #[] 1537 4 #[] #[])
  fields := #[]
  methods := #[]
  instanceTypes := #[]
  staticTypes := #[]
  resolved := Array.replicate 8 none
  statics := none }

def pool5 : Array CpInfo := pool [(1, u "java/io/Serializable"), (0, .class_ 1), (0, u "java/lang/Object"), (0, .class_ 3)] 3

/-- java/io/Serializable -/
def k5 : Class := { plain "java/io/Serializable" (some 0) with
  accessFlags := 1537
  interfaces := #[]
  cf := some (fileOf pool5 2 #[] #[] 1537 4 #[] #[])
  fields := #[]
  methods := #[]
  instanceTypes := #[]
  staticTypes := #[]
  resolved := Array.replicate 8 none
  statics := none }

/-- the primitive byte -/
def k6 : Class := { plain "byte" none with kind := .primitive 'B', accessFlags := 0x411 }
/-- [B -/
def k7 : Class := { plain "[B" (some 0) with kind := .array 6 .byte, interfaces := #[4, 5], accessFlags := 1041 }

/-- the primitive int -/
def k8 : Class := { plain "int" none with kind := .primitive 'I', accessFlags := 0x411 }
/-- [I -/
def k9 : Class := { plain "[I" (some 0) with kind := .array 8 .int, interfaces := #[4, 5], accessFlags := 1041 }

def heap : Heap := #[]
def classes : Array Class := #[k0, k1, k2, k3, k4, k5, k6, k7, k8, k9]
def interned : List (Array UInt16 × Addr) := []
def slotsUsed : Nat := 0
def theMethod : MethodId := ⟨1, 3⟩
def args0 : Array Value := #[.int 5, .int 1, .int 2, .int 3, .int 33]
def aboutOver (below : List Frame) : State where
  vm := { classes := classes, interned := interned.toArray }
  heap := heap
  slotsUsed := slotsUsed
  threads := #[{ frames := .invoking theMethod args0 :: below }]
def below0 : List Frame := [.native { method := ⟨0, 0⟩, args := #[] }]
def about1 : State := aboutOver below0
def p0 : Program := .bare "" "" ""
def e0 : Env := launch0.env 0 0 0
theorem w_frames : about1.frames = Frame.invoking theMethod args0 :: below0 := rfl
set_option maxRecDepth 65536 in
theorem w_args : argsFit about1.vm theMethod args0 = true := by decide +kernel
set_option maxRecDepth 65536 in
theorem w_heap : heapFits about1 = true := by decide +kernel
set_option maxRecDepth 65536 in
theorem w_runnable : about1.curStatus? = some .runnable := by decide +kernel
set_option maxRecDepth 65536 in
theorem w_alone : about1.alone = true := by decide +kernel
set_option maxRecDepth 65536 in
theorem w_named : about1.methodNamed? x = some theMethod := by decide +kernel
set_option maxRecDepth 65536 in
theorem w_hears : about1.hears theMethod below0 = true := by decide +kernel
set_option maxRecDepth 65536 in
theorem w_ripe : about1.ripe theMethod args0 below0 = true := by decide +kernel
theorem w_running : about1.status = .running := rfl
set_option maxRecDepth 65536 in
theorem w_room : about1.hasRoom e0.platform room_1 = true :=
  launch0.hasRoom_least _ room_1 (by decide +kernel) (by decide +kernel) (by decide +kernel) (by decide +kernel) (by decide +kernel) (by decide +kernel)
theorem allAtoms_all (ts : List Jvm.Cond) (a : Array Jvm.Value) (st : Jvm.State) : (allAtoms ts).before a st = ts.all (fun c => c.before a st) := by
  induction ts with
  | nil => rfl
  | cons c t ih =>
    show (Jvm.Cond.and c (allAtoms t)).before a st = _
    rw [Jvm.Cond.before_and, ih, List.all_cons]
def words1 : List Jvm.Cond := Jvm.Cond.code x code maxLocals ret :: tables_1
/-- a 'code' word, met by the world's own term for the bytes: nothing is compared byte by byte -/
theorem code_word {y : MethodName} {bytes : ByteArray} {mx : Nat} {rt : Option FieldType} {a : Array Value} {s : State} {m : MethodId} {meth : Method} {c : Code} (h1 : s.methodNamed? y = some m) (h2 : s.vm.method? m = some meth) (h3 : meth.code = some c) (h4 : c.code = bytes)
    (h5 : (c.maxLocals == mx && c.exceptionTable.isEmpty && decide (c.maxStack ≤ mostOperands) && decide (meth.sig.returnType = rt) && !meth.locks && decide (parseMethodDescriptor y.desc = some meth.sig)) = true) : (Jvm.Cond.code y bytes mx rt).before a s = true := by
  simp only [Bool.and_eq_true, beq_iff_eq, Bool.not_eq_true', decide_eq_true_eq] at h5
  obtain ⟨⟨⟨⟨⟨g1, g2⟩, g3⟩, g4⟩, g5⟩, g6⟩ := h5
  simp [Cond.before, Cond.holds, Cond.value, h1, h2, h3, h4, g1, g2, g3, g4, g5, g6]
def isCode : Jvm.Cond → Bool
  | .code _ _ _ _ => true
  | _ => false
theorem all_split {L : List Jvm.Cond} {P : Jvm.Cond → Bool} (h1 : L.all (fun c => isCode c || P c) = true) (h2 : ∀ c ∈ L.filter isCode, P c = true) : L.all P = true := by
  refine List.all_eq_true.mpr fun c hc => ?_
  have h := List.all_eq_true.mp h1 c hc
  rcases Bool.eq_false_or_eq_true (isCode c) with hi | hi
  · exact h2 c (List.mem_filter.mpr ⟨hc, hi⟩)
  · simpa [hi] using h
set_option maxRecDepth 65536 in
theorem w_c0 : (Jvm.Cond.code x code maxLocals ret).before args0 about1 = true := code_word (m := ⟨1, 3⟩) (meth := k1m3) (c := k1c3) (by decide +kernel) rfl rfl rfl (by decide +kernel)
set_option maxRecDepth 65536 in
theorem w_c1 : (Jvm.Cond.code ({ cls := "com/example/stampwise/stampwise/history/IntGroupsPlacePinLaw", name := "below", desc := "(IIII)I" } : Jvm.MethodName) method_2_code (4 : Nat) (Option.some Jvm.ClassFile.FieldType.int)).before args0 about1 = true := code_word (m := ⟨1, 1⟩) (meth := k1m1) (c := k1c1) (by decide +kernel) rfl rfl rfl (by decide +kernel)
set_option maxRecDepth 65536 in
theorem w_c2 : (Jvm.Cond.code ({ cls := "com/example/stampwise/stampwise/history/IntGroupsPlacePinLaw", name := "same", desc := "(II)I" } : Jvm.MethodName) method_3_code (2 : Nat) (Option.some Jvm.ClassFile.FieldType.int)).before args0 about1 = true := code_word (m := ⟨1, 2⟩) (meth := k1m2) (c := k1c2) (by decide +kernel) rfl rfl rfl (by decide +kernel)
set_option maxRecDepth 65536 in
theorem w_c3 : (Jvm.Cond.code ({ cls := "com/example/stampwise/stampwise/history/IntGroups", name := "<init>", desc := "(I)V" } : Jvm.MethodName) prog_113_method_1_code (2 : Nat) (Option.none : Option Jvm.ClassFile.FieldType)).before args0 about1 = true := code_word (m := ⟨2, 0⟩) (meth := k2m0) (c := k2c0) (by decide +kernel) rfl rfl rfl (by decide +kernel)
set_option maxRecDepth 65536 in
theorem w_c4 : (Jvm.Cond.code ({ cls := "java/lang/Object", name := "<init>", desc := "()V" } : Jvm.MethodName) object_method_1_code (1 : Nat) (Option.none : Option Jvm.ClassFile.FieldType)).before args0 about1 = true := code_word (m := ⟨0, 0⟩) (meth := k0m0) (c := k0c0) (by decide +kernel) rfl rfl rfl (by decide +kernel)
set_option maxRecDepth 65536 in
theorem w_c5 : (Jvm.Cond.code ({ cls := "com/example/stampwise/stampwise/history/IntGroups", name := "count", desc := "(I)V" } : Jvm.MethodName) prog_113_method_2_code (2 : Nat) (Option.none : Option Jvm.ClassFile.FieldType)).before args0 about1 = true := code_word (m := ⟨2, 1⟩) (meth := k2m1) (c := k2c1) (by decide +kernel) rfl rfl rfl (by decide +kernel)
set_option maxRecDepth 65536 in
theorem w_c6 : (Jvm.Cond.code ({ cls := "com/example/stampwise/stampwise/history/IntGroups", name := "startPlacing", desc := "()V" } : Jvm.MethodName) prog_113_method_3_code (2 : Nat) (Option.none : Option Jvm.ClassFile.FieldType)).before args0 about1 = true := code_word (m := ⟨2, 2⟩) (meth := k2m2) (c := k2c2) (by decide +kernel) rfl rfl rfl (by decide +kernel)
set_option maxRecDepth 65536 in
theorem w_c7 : (Jvm.Cond.code ({ cls := "com/example/stampwise/stampwise/history/IntGroups", name := "place", desc := "(II)I" } : Jvm.MethodName) prog_113_method_4_code (4 : Nat) (Option.some Jvm.ClassFile.FieldType.int)).before args0 about1 = true := code_word (m := ⟨2, 3⟩) (meth := k2m3) (c := k2c3) (by decide +kernel) rfl rfl rfl (by decide +kernel)
set_option maxRecDepth 65536 in
theorem w_c8 : (Jvm.Cond.code ({ cls := "com/example/stampwise/stampwise/history/IntGroups", name := "values", desc := "()[I" } : Jvm.MethodName) prog_113_method_7_code (1 : Nat) (Option.some (Jvm.ClassFile.FieldType.array Jvm.ClassFile.FieldType.int))).before args0 about1 = true := code_word (m := ⟨2, 5⟩) (meth := k2m5) (c := k2c5) (by decide +kernel) rfl rfl rfl (by decide +kernel)
set_option maxRecDepth 65536 in
theorem w_c9 : (Jvm.Cond.code ({ cls := "com/example/stampwise/stampwise/history/IntGroups", name := "start", desc := "(I)I" } : Jvm.MethodName) prog_113_method_5_code (2 : Nat) (Option.some Jvm.ClassFile.FieldType.int)).before args0 about1 = true := code_word (m := ⟨2, 4⟩) (meth := k2m4) (c := k2c4) (by decide +kernel) rfl rfl rfl (by decide +kernel)
def codes1 : List Jvm.Cond := [Jvm.Cond.code x code maxLocals ret, Jvm.Cond.code ({ cls := "com/example/stampwise/stampwise/history/IntGroupsPlacePinLaw", name := "below", desc := "(IIII)I" } : Jvm.MethodName) method_2_code (4 : Nat) (Option.some Jvm.ClassFile.FieldType.int), Jvm.Cond.code ({ cls := "com/example/stampwise/stampwise/history/IntGroupsPlacePinLaw", name := "same", desc := "(II)I" } : Jvm.MethodName) method_3_code (2 : Nat) (Option.some Jvm.ClassFile.FieldType.int), Jvm.Cond.code ({ cls := "com/example/stampwise/stampwise/history/IntGroups", name := "<init>", desc := "(I)V" } : Jvm.MethodName) prog_113_method_1_code (2 : Nat) (Option.none : Option Jvm.ClassFile.FieldType), Jvm.Cond.code ({ cls := "java/lang/Object", name := "<init>", desc := "()V" } : Jvm.MethodName) object_method_1_code (1 : Nat) (Option.none : Option Jvm.ClassFile.FieldType), Jvm.Cond.code ({ cls := "com/example/stampwise/stampwise/history/IntGroups", name := "count", desc := "(I)V" } : Jvm.MethodName) prog_113_method_2_code (2 : Nat) (Option.none : Option Jvm.ClassFile.FieldType), Jvm.Cond.code ({ cls := "com/example/stampwise/stampwise/history/IntGroups", name := "startPlacing", desc := "()V" } : Jvm.MethodName) prog_113_method_3_code (2 : Nat) (Option.none : Option Jvm.ClassFile.FieldType), Jvm.Cond.code ({ cls := "com/example/stampwise/stampwise/history/IntGroups", name := "place", desc := "(II)I" } : Jvm.MethodName) prog_113_method_4_code (4 : Nat) (Option.some Jvm.ClassFile.FieldType.int), Jvm.Cond.code ({ cls := "com/example/stampwise/stampwise/history/IntGroups", name := "values", desc := "()[I" } : Jvm.MethodName) prog_113_method_7_code (1 : Nat) (Option.some (Jvm.ClassFile.FieldType.array Jvm.ClassFile.FieldType.int)), Jvm.Cond.code ({ cls := "com/example/stampwise/stampwise/history/IntGroups", name := "start", desc := "(I)I" } : Jvm.MethodName) prog_113_method_5_code (2 : Nat) (Option.some Jvm.ClassFile.FieldType.int)]
set_option maxRecDepth 65536 in
theorem codes_eq : words1.filter isCode = codes1 := rfl
theorem w_codes : ∀ c ∈ words1.filter isCode, c.before args0 about1 = true := by
  rw [codes_eq]
  intro c hc
  simp only [codes1, List.mem_cons, List.not_mem_nil, or_false] at hc
  rcases hc with rfl | rfl | rfl | rfl | rfl | rfl | rfl | rfl | rfl | rfl
  · exact w_c0
  · exact w_c1
  · exact w_c2
  · exact w_c3
  · exact w_c4
  · exact w_c5
  · exact w_c6
  · exact w_c7
  · exact w_c8
  · exact w_c9
set_option maxRecDepth 65536 in
theorem w_t1 : (words1.take 24).all (fun c => isCode c || c.before args0 about1) = true := by decide +kernel
set_option maxRecDepth 65536 in
theorem w_t2 : ((words1.drop 24).take 24).all (fun c => isCode c || c.before args0 about1) = true := by decide +kernel
set_option maxRecDepth 65536 in
theorem w_t3 : ((words1.drop 24).drop 24).all (fun c => isCode c || c.before args0 about1) = true := by decide +kernel
theorem w_tables : (allAtoms (Jvm.Cond.code x code maxLocals ret :: tables_1)).before args0 about1 = true := by
  rw [allAtoms_all]
  show words1.all (fun c => c.before args0 about1) = true
  refine all_split ?_ w_codes
  rw [← List.take_append_drop 24 words1, List.all_append, w_t1, ← List.take_append_drop 24 (words1.drop 24), List.all_append, w_t2, w_t3]
  rfl
set_option maxRecDepth 65536 in
theorem w_case : (Jvm.Cond.and given_1 narrow_1).before args0 about1 = true := by decide +kernel
theorem w_applies : (headSpec (Jvm.Cond.code x code maxLocals ret :: tables_1) room_1).applies x e0.platform about1 = true :=
  (Spec.applies_iff w_frames).mpr ⟨w_running, w_runnable, w_alone, w_named, w_hears, w_ripe, w_room, w_tables⟩
theorem atStart : AtStart classFile x code maxLocals ret World_1 tables_1 room_1 Calls_1 rest_1 Pre_1 launch0 p0 e0 about1 theMethod args0 below0 :=
  ⟨lists_1, trivial, launch0.admits_env _ _ _, launch0.least_env, fairChoices_fair.cas, fairChoices_fair.clock, w_frames, w_args, w_heap, w_applies, trivial, trivial, w_case⟩
end start1
theorem witness_1 : WitnessClaimed_1 := ⟨start1.p0, start1.e0, start1.about1, start1.theMethod, start1.args0, start1.below0, start1.atStart⟩
end Jvm.Pilot.@@N@@

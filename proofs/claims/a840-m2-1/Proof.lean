import JvmDerived
import JvmDerived.Pilot.@@N@@Statement
import JvmDerived.Pilot.@@N@@Code
set_option linter.unusedVariables false
set_option linter.unusedSimpArgs false
set_option maxRecDepth 65536
set_option maxHeartbeats 2000000

namespace Jvm.OwnWP
open Sem ClassFile Op Lib Jvm.Stand Jvm.Free Jvm.LawKit Jvm.RoadKit
/-- Java's shifts and its comparison of longs -/
def ushr (x y : Int32) : Int32 := (x.toUInt32 >>> (y &&& 31).toUInt32).toInt32
def ushrL (x : Int64) (y : Int32) : Int64 := (x.toUInt64 >>> (y &&& 0x3f).toInt64.toUInt64).toInt64
def cmpL (x y : Int64) : Int32 := if x > y then 1 else if x = y then 0 else -1
/-! A body: its class, its name, bytes, max_locals, what it returns, its room. -/
abbrev Bod : Type := String × String × ByteArray × Nat × Option FieldType × Room
abbrev Bod.own (B : Bod) : String := B.1
abbrev Bod.mname (B : Bod) : String := B.2.1
abbrev Bod.bytes (B : Bod) : ByteArray := B.2.2.1
abbrev Bod.maxL (B : Bod) : Nat := B.2.2.2.1
abbrev Bod.ret (B : Bod) : Option FieldType := B.2.2.2.2.1
abbrev Bod.room (B : Bod) : Room := B.2.2.2.2.2
def Ctx (p : Program) (s : State) (m : MethodId) (meth : Method) (c : Code) (Z : State) (B : Bod) : Prop :=
  p.tables.exec = Jvm.exec ∧ Z.Warmed39 s.vm ∧ s.vm.findClass B.own = some m.cls ∧ c.code = B.bytes ∧ c.maxLocals = B.maxL ∧ meth.sig.returnType = B.ret ∧ meth.locks = false ∧ meth.name = B.mname
/-- From pc, with these locals and this stack, over the heap h, the body returns, and Q says of what it returns and of the heap. -/
def WP (l : Launch) (B : Bod) (Z : State) (n0 : Nat) (Q : Option Value → Heap → Prop) (h : Heap) (cs sl pc : Nat) (ls : Array Slot) (st : List Value) : Prop :=
  ∀ (p : Program) (e : Env) (s : State) (m : MethodId) (args : Array Value) (below : List Frame) (meth : Method) (c : Code) (T : State) (L : List Loc),
    Ctx p s m meth c Z B → Stand p l e B.room s m args below meth c T L cs sl → T.heap = h → Fr n0 L → n0 ≤ h.size →
    ∃ (U : State) (v : Option Value) (L' : List Loc), Steps p.tables e below (T.setTop (mkF m pc ls st)) U ∧ U.status = .running ∧ Ended U below (.returned v) ∧ Q v U.heap ∧ Fr n0 L' ∧ n0 ≤ U.heap.size ∧ FrameEnd s (.returned v) U L' B.room.cells B.room.slots
/-- The contract of a body: called with the arguments as over the heap h0. -/
def OMet (l : Launch) (y : MethodName) (B : Bod) (Z : State) (n0 : Nat) (as : Array Value) (h0 : Heap) (Q : Option Value → Heap → Prop) : Prop :=
  n0 ≤ h0.size → ∀ ws, MetFree l y (head1 (Cond.code y B.bytes B.maxL B.ret :: ws) B.room) (fun a U => a = as ∧ Z.Warmed39 U.vm ∧ U.heap = h0) (fun _ _ _ _ _ => True) (fun _ U o U' => ∃ v L, o = .returned v ∧ (Q v U'.heap ∧ Fr n0 L ∧ n0 ≤ U'.heap.size) ∧ FrameEnd U o U' L B.room.cells B.room.slots)
section W
variable {l : Launch} {B : Bod} {Z : State} {n0 : Nat} {Q : Option Value → Heap → Prop} {h : Heap} {cs sl pc pc' : Nat} {ls ls' : Array Slot} {st rest : List Value} {a0 : Array Value}
theorem OMet.of_wp {y : MethodName} {as : Array Value} {ls0 : Array Slot} (hpl : plainFor y = true) (h1 : y.cls = B.own) (h2 : y.name = B.mname) (hef : ∀ m, entryFrame m as B.maxL = mkF m 0 ls0 []) (H : WP l B Z n0 Q h 0 0 0 ls0 []) : OMet l y B Z n0 as h Q := by
  intro hn ws
  refine MetFree.of_bodySF hpl hisR ?_
  intro p e s m args below meth c s₁ Bd hml0 hP hK
  obtain ⟨rfl, hZ, hh⟩ := hP
  have hnm := (name_of_methodNamed Bd.named Bd.method).1
  have hown : s.vm.findClass y.cls = some m.cls := findClass_of_methodNamed Bd.named
  have X0 := Stand.of_body Bd
  have e0 : s₁.heap = h := by rw [← hh, Bd.state]; rfl
  obtain ⟨U, v, L', a1, a2, a3, a4, a5, a6, a7⟩ := H p e s m args below meth c s₁ [] ⟨Bd.exec, hZ, h1 ▸ hown, Bd.bytes, hml0, Bd.returns, Bd.notSynchronized, hnm.trans h2⟩ X0 e0 (Fr.nil n0) hn
  exact ⟨U, _, castTop (hef m) a1, a2, a3, v, L', rfl, ⟨a4, a5, a6⟩, a7⟩
theorem WP.mono {Q' : Option Value → Heap → Prop} (H : WP l B Z n0 Q' h cs sl pc ls st) (hq : ∀ v h', Q' v h' → Q v h') : WP l B Z n0 Q h cs sl pc ls st := by
  intro p e s m args below meth c T L C X hT N hn
  obtain ⟨U, v, L', a1, a2, a3, a4, r⟩ := H p e s m args below meth c T L C X hT N hn
  exact ⟨U, v, L', a1, a2, a3, hq _ _ a4, r⟩
/-- a plain step: the state stays, the frame moves -/
theorem WP.step {pc' : Nat} {ls' : Array Slot} {st' : List Value}
    (S : ∀ (p : Program) (e : Env) (s : State) (m : MethodId) (args : Array Value) (below : List Frame) (meth : Method) (c : Code) (T : State) (L : List Loc), Ctx p s m meth c Z B → Stand p l e B.room s m args below meth c T L cs sl → T.heap = h → ∀ target, Steps p.tables e below (T.setTop (mkF m pc' ls' st')) target → Steps p.tables e below (T.setTop (mkF m pc ls st)) target)
    (H : WP l B Z n0 Q h cs sl pc' ls' st') : WP l B Z n0 Q h cs sl pc ls st := by
  intro p e s m args below meth c T L C X hT N hn
  obtain ⟨U, v, L', a1, r⟩ := H p e s m args below meth c T L C X hT N hn
  exact ⟨U, v, L', S p e s m args below meth c T L C X hT _ a1, r⟩
/-- a step to another state -/
theorem WP.stepT {pc' cs' sl' : Nat} {ls' : Array Slot} {st' : List Value} {P : Heap → Prop}
    (S : ∀ (p : Program) (e : Env) (s : State) (m : MethodId) (args : Array Value) (below : List Frame) (meth : Method) (c : Code) (T : State) (L : List Loc), Ctx p s m meth c Z B → Stand p l e B.room s m args below meth c T L cs sl → T.heap = h → Fr n0 L → n0 ≤ h.size →
      ∃ (T' : State) (h' : Heap) (L' : List Loc), Stand p l e B.room s m args below meth c T' L' cs' sl' ∧ T'.heap = h' ∧ Fr n0 L' ∧ n0 ≤ h'.size ∧ P h' ∧ ∀ target, Steps p.tables e below (T'.setTop (mkF m pc' ls' st')) target → Steps p.tables e below (T.setTop (mkF m pc ls st)) target)
    (H : ∀ h', P h' → WP l B Z n0 Q h' cs' sl' pc' ls' st') : WP l B Z n0 Q h cs sl pc ls st := by
  intro p e s m args below meth c T L C X hT N hn
  obtain ⟨T', h', L1, X', e', N', n', hp, st⟩ := S p e s m args below meth c T L C X hT N hn
  obtain ⟨U, v, L', a1, r⟩ := H h' hp p e s m args below meth c T' L1 C X' e' N' n'
  exact ⟨U, v, L', st _ a1, r⟩
/-! loads, stores, constants -/
theorem WP.iloadN {k : Fin 4} {v : Int32} (hd : decode B.bytes pc = .ok (.iload_n k, 1)) (hl : ls[k.val]? = some (.val (.int v))) (hp : pc + 1 = pc') (H : WP l B Z n0 Q h cs sl pc' ls (.int v :: st)) : WP l B Z n0 Q h cs sl pc ls st := by
  subst hp; exact WP.step (fun p e s m args below meth c T L C X hT target k => XS.iloadN X.here C.1 rfl (hb C.2.2.2.1 hd) hl k) H
theorem WP.iload {k : Nat} {v : Int32} (hd : decode B.bytes pc = .ok (.iload k, 2)) (hl : ls[k]? = some (.val (.int v))) (hp : pc + 2 = pc') (H : WP l B Z n0 Q h cs sl pc' ls (.int v :: st)) : WP l B Z n0 Q h cs sl pc ls st := by
  subst hp; exact WP.step (fun p e s m args below meth c T L C X hT target k => XS.iload X.here C.1 rfl (hb C.2.2.2.1 hd) hl k) H
theorem WP.lloadN {k : Fin 4} {v : Int64} (hd : decode B.bytes pc = .ok (.lload_n k, 1)) (hl : ls[k.val]? = some (.val (.long v))) (hp : pc + 1 = pc') (H : WP l B Z n0 Q h cs sl pc' ls (.long v :: st)) : WP l B Z n0 Q h cs sl pc ls st := by
  subst hp; exact WP.step (fun p e s m args below meth c T L C X hT target k => XS.lloadN X.here C.1 rfl (hb C.2.2.2.1 hd) hl k) H
theorem WP.lload {k : Nat} {v : Int64} (hd : decode B.bytes pc = .ok (.lload k, 2)) (hl : ls[k]? = some (.val (.long v))) (hp : pc + 2 = pc') (H : WP l B Z n0 Q h cs sl pc' ls (.long v :: st)) : WP l B Z n0 Q h cs sl pc ls st := by
  subst hp; exact WP.step (fun p e s m args below meth c T L C X hT target k => XS.lload X.here C.1 rfl (hb C.2.2.2.1 hd) hl k) H
theorem WP.aloadN {k : Fin 4} {v : Value} (hd : decode B.bytes pc = .ok (.aload_n k, 1)) (hl : ls[k.val]? = some (.val v)) (hv : v.isRef = true) (hp : pc + 1 = pc') (H : WP l B Z n0 Q h cs sl pc' ls (v :: st)) : WP l B Z n0 Q h cs sl pc ls st := by
  subst hp; exact WP.step (fun p e s m args below meth c T L C X hT target k => XS.aloadN X.here C.1 rfl (hb C.2.2.2.1 hd) hl hv k) H
theorem WP.aload {k : Nat} {v : Value} (hd : decode B.bytes pc = .ok (.aload k, 2)) (hl : ls[k]? = some (.val v)) (hv : v.isRef = true) (hp : pc + 2 = pc') (H : WP l B Z n0 Q h cs sl pc' ls (v :: st)) : WP l B Z n0 Q h cs sl pc ls st := by
  subst hp; exact WP.step (fun p e s m args below meth c T L C X hT target k => XS.aload X.here C.1 rfl (hb C.2.2.2.1 hd) hl hv k) H
theorem WP.istoreN {k : Fin 4} {x : Int32} (hd : decode B.bytes pc = .ok (.istore_n k, 1)) (hp : pc + 1 = pc') (hl : storeLocals ls k.val (.int x) = some ls') (H : WP l B Z n0 Q h cs sl pc' ls' st) : WP l B Z n0 Q h cs sl pc ls (.int x :: st) := by
  subst hp; exact WP.step (fun p e s m args below meth c T L C X hT target k => XS.istoreN X.here C.1 rfl (hb C.2.2.2.1 hd) rfl hl k) H
theorem WP.istore {k : Nat} {x : Int32} (hd : decode B.bytes pc = .ok (.istore k, 2)) (hp : pc + 2 = pc') (hl : storeLocals ls k (.int x) = some ls') (H : WP l B Z n0 Q h cs sl pc' ls' st) : WP l B Z n0 Q h cs sl pc ls (.int x :: st) := by
  subst hp; exact WP.step (fun p e s m args below meth c T L C X hT target k => XS.istore X.here C.1 rfl (hb C.2.2.2.1 hd) rfl hl k) H
theorem WP.lstoreN {k : Fin 4} {x : Int64} (hd : decode B.bytes pc = .ok (.lstore_n k, 1)) (hp : pc + 1 = pc') (hl : storeLocals ls k.val (.long x) = some ls') (H : WP l B Z n0 Q h cs sl pc' ls' st) : WP l B Z n0 Q h cs sl pc ls (.long x :: st) := by
  subst hp; exact WP.step (fun p e s m args below meth c T L C X hT target k => XS.lstoreN X.here C.1 rfl (hb C.2.2.2.1 hd) rfl hl k) H
theorem WP.lstore {k : Nat} {x : Int64} (hd : decode B.bytes pc = .ok (.lstore k, 2)) (hp : pc + 2 = pc') (hl : storeLocals ls k (.long x) = some ls') (H : WP l B Z n0 Q h cs sl pc' ls' st) : WP l B Z n0 Q h cs sl pc ls (.long x :: st) := by
  subst hp; exact WP.step (fun p e s m args below meth c T L C X hT target k => XS.lstore X.here C.1 rfl (hb C.2.2.2.1 hd) rfl hl k) H
theorem WP.astoreN {k : Fin 4} {x : Value} (hd : decode B.bytes pc = .ok (.astore_n k, 1)) (hp : pc + 1 = pc') (hv : x.isRef = true) (hl : storeLocals ls k.val x = some ls') (H : WP l B Z n0 Q h cs sl pc' ls' st) : WP l B Z n0 Q h cs sl pc ls (x :: st) := by
  subst hp; exact WP.step (fun p e s m args below meth c T L C X hT target k => XS.astoreN X.here C.1 rfl (hb C.2.2.2.1 hd) rfl hv hl k) H
theorem WP.astore {k : Nat} {x : Value} (hd : decode B.bytes pc = .ok (.astore k, 2)) (hp : pc + 2 = pc') (hv : x.isRef = true) (hl : storeLocals ls k x = some ls') (H : WP l B Z n0 Q h cs sl pc' ls' st) : WP l B Z n0 Q h cs sl pc ls (x :: st) := by
  subst hp; exact WP.step (fun p e s m args below meth c T L C X hT target k => XS.astore X.here C.1 rfl (hb C.2.2.2.1 hd) rfl hv hl k) H
theorem WP.iconst {i : Int} {z : Int32} (hd : decode B.bytes pc = .ok (.iconst i, 1)) (hz : Int32.ofInt i = z) (hp : pc + 1 = pc') (H : WP l B Z n0 Q h cs sl pc' ls (.int z :: st)) : WP l B Z n0 Q h cs sl pc ls st := by
  subst hp hz; exact WP.step (fun p e s m args below meth c T L C X hT target k => XS.iconst X.here C.1 rfl (hb C.2.2.2.1 hd) k) H
theorem WP.bipush {i : Int} {z : Int32} (hd : decode B.bytes pc = .ok (.bipush i, 2)) (hz : (Int8.ofInt i).toInt32 = z) (hp : pc + 2 = pc') (H : WP l B Z n0 Q h cs sl pc' ls (.int z :: st)) : WP l B Z n0 Q h cs sl pc ls st := by
  subst hp hz; exact WP.step (fun p e s m args below meth c T L C X hT target k => XS.bipush X.here C.1 rfl (hb C.2.2.2.1 hd) k) H
theorem WP.sipush {i : Int} {z : Int32} (hd : decode B.bytes pc = .ok (.sipush i, 3)) (hz : (Int16.ofInt i).toInt32 = z) (hp : pc + 3 = pc') (H : WP l B Z n0 Q h cs sl pc' ls (.int z :: st)) : WP l B Z n0 Q h cs sl pc ls st := by
  subst hp hz; exact WP.step (fun p e s m args below meth c T L C X hT target k => XS.sipush X.here C.1 rfl (hb C.2.2.2.1 hd) k) H
theorem WP.lconst0 (hd : decode B.bytes pc = .ok (.lconst 0, 1)) (hp : pc + 1 = pc') (H : WP l B Z n0 Q h cs sl pc' ls (.long 0 :: st)) : WP l B Z n0 Q h cs sl pc ls st := by
  subst hp; exact WP.step (fun p e s m args below meth c T L C X hT target k => XS.lconst X.here C.1 rfl (hb C.2.2.2.1 hd) k) H
theorem WP.lconst1 (hd : decode B.bytes pc = .ok (.lconst 1, 1)) (hp : pc + 1 = pc') (H : WP l B Z n0 Q h cs sl pc' ls (.long 1 :: st)) : WP l B Z n0 Q h cs sl pc ls st := by
  subst hp; exact WP.step (fun p e s m args below meth c T L C X hT target k => XS.lconst X.here C.1 rfl (hb C.2.2.2.1 hd) k) H
theorem WP.aconstNull (hd : decode B.bytes pc = .ok (.aconst_null, 1)) (hp : pc + 1 = pc') (H : WP l B Z n0 Q h cs sl pc' ls (.null :: st)) : WP l B Z n0 Q h cs sl pc ls st := by
  subst hp; exact WP.step (fun p e s m args below meth c T L C X hT target k => XS.aconstNull X.here C.1 rfl (hb C.2.2.2.1 hd) k) H
theorem WP.ldcI {i : Nat} {z : Int32} (hd : decode B.bytes pc = .ok (.ldc i, 2)) (w : (Cond.constant B.own i z).before a0 Z = true) (hp : pc + 2 = pc') (H : WP l B Z n0 Q h cs sl pc' ls (.int z :: st)) : WP l B Z n0 Q h cs sl pc ls st := by
  subst hp; exact WP.step (fun p e s m args below meth c T L C X hT target k => X.ldcInt C.1 C.2.2.1 (mvT C.2.1 w) (g := mkF m pc ls st) rfl (hb C.2.2.2.1 hd) _ k) H
theorem WP.ldcwI {i : Nat} {z : Int32} (hd : decode B.bytes pc = .ok (.ldc_w i, 3)) (w : (Cond.constant B.own i z).before a0 Z = true) (hp : pc + 3 = pc') (H : WP l B Z n0 Q h cs sl pc' ls (.int z :: st)) : WP l B Z n0 Q h cs sl pc ls st := by
  subst hp; exact WP.step (fun p e s m args below meth c T L C X hT target k => X.ldcwInt C.1 C.2.2.1 (mvT C.2.1 w) (g := mkF m pc ls st) rfl (hb C.2.2.2.1 hd) _ k) H
theorem WP.ldc2J {i : Nat} {z : Int64} (hd : decode B.bytes pc = .ok (.ldc2_w i, 3)) (w : (Cond.constantLong B.own i z).before a0 Z = true) (hp : pc + 3 = pc') (H : WP l B Z n0 Q h cs sl pc' ls (.long z :: st)) : WP l B Z n0 Q h cs sl pc ls st := by
  subst hp; exact WP.step (fun p e s m args below meth c T L C X hT target k => X.ldc2Long C.1 C.2.2.1 (mvT C.2.1 w) (g := mkF m pc ls st) rfl (hb C.2.2.2.1 hd) _ k) H
theorem WP.iinc {k : Nat} {cst : Int} {x y : Int32} (hd : decode B.bytes pc = .ok (.iinc k cst, 3)) (hp : pc + 3 = pc') (hl : ls[k]? = some (.val (.int x))) (hy : x + Int32.ofInt cst = y) (hl' : storeLocals ls k (.int y) = some ls') (H : WP l B Z n0 Q h cs sl pc' ls' st) : WP l B Z n0 Q h cs sl pc ls st := by
  subst hp hy; exact WP.step (fun p e s m args below meth c T L C X hT target k => XS.iinc X.here C.1 rfl (hb C.2.2.2.1 hd) hl hl' k) H
/-! the stack -/
theorem WP.dup {x : Value} (hd : decode B.bytes pc = .ok (.dup, 1)) (hc : x.category = 1) (hp : pc + 1 = pc') (H : WP l B Z n0 Q h cs sl pc' ls (x :: x :: st)) : WP l B Z n0 Q h cs sl pc ls (x :: st) := by
  subst hp; exact WP.step (fun p e s m args below meth c T L C X hT target k => XS.dup X.here C.1 rfl (hb C.2.2.2.1 hd) rfl hc k) H
theorem WP.pop {x : Value} (hd : decode B.bytes pc = .ok (.pop, 1)) (hc : x.category = 1) (hp : pc + 1 = pc') (H : WP l B Z n0 Q h cs sl pc' ls st) : WP l B Z n0 Q h cs sl pc ls (x :: st) := by
  subst hp; exact WP.step (fun p e s m args below meth c T L C X hT target k => XS.pop X.here C.1 rfl (hb C.2.2.2.1 hd) rfl hc k) H
theorem WP.dupX1 {x y : Value} (hd : decode B.bytes pc = .ok (.dup_x1, 1)) (hc : x.category = 1) (hc' : y.category = 1) (hp : pc + 1 = pc') (H : WP l B Z n0 Q h cs sl pc' ls (x :: y :: x :: st)) : WP l B Z n0 Q h cs sl pc ls (x :: y :: st) := by
  subst hp; exact WP.step (fun p e s m args below meth c T L C X hT target k => XS.dupX1 X.here C.1 rfl (hb C.2.2.2.1 hd) rfl hc hc' k) H
theorem WP.dup2 {x y : Value} (hd : decode B.bytes pc = .ok (.dup2, 1)) (hc : x.category = 1) (hc' : y.category = 1) (hp : pc + 1 = pc') (H : WP l B Z n0 Q h cs sl pc' ls (x :: y :: x :: y :: st)) : WP l B Z n0 Q h cs sl pc ls (x :: y :: st) := by
  subst hp; exact WP.step (fun p e s m args below meth c T L C X hT target k => Jvm.Free.XT.dup2 X.here C.1 rfl (hb C.2.2.2.1 hd) rfl hc hc' k) H
/-! arithmetic -/
theorem WP.iadd {x : Int32} {y : Int32} (hd : decode B.bytes pc = .ok (.iadd, 1)) (hp : pc + 1 = pc') (H : WP l B Z n0 Q h cs sl pc' ls (.int (x + y) :: st)) : WP l B Z n0 Q h cs sl pc ls (.int y :: .int x :: st) := by
  subst hp; exact WP.step (fun p e s m args below meth c T L C X hT target k => XS.iadd X.here C.1 rfl (hb C.2.2.2.1 hd) rfl k) H
theorem WP.isub {x : Int32} {y : Int32} (hd : decode B.bytes pc = .ok (.isub, 1)) (hp : pc + 1 = pc') (H : WP l B Z n0 Q h cs sl pc' ls (.int (x - y) :: st)) : WP l B Z n0 Q h cs sl pc ls (.int y :: .int x :: st) := by
  subst hp; exact WP.step (fun p e s m args below meth c T L C X hT target k => XS.isub X.here C.1 rfl (hb C.2.2.2.1 hd) rfl k) H
theorem WP.imul {x : Int32} {y : Int32} (hd : decode B.bytes pc = .ok (.imul, 1)) (hp : pc + 1 = pc') (H : WP l B Z n0 Q h cs sl pc' ls (.int (x * y) :: st)) : WP l B Z n0 Q h cs sl pc ls (.int y :: .int x :: st) := by
  subst hp; exact WP.step (fun p e s m args below meth c T L C X hT target k => XS.imul X.here C.1 rfl (hb C.2.2.2.1 hd) rfl k) H
theorem WP.iand {x : Int32} {y : Int32} (hd : decode B.bytes pc = .ok (.iand, 1)) (hp : pc + 1 = pc') (H : WP l B Z n0 Q h cs sl pc' ls (.int (x &&& y) :: st)) : WP l B Z n0 Q h cs sl pc ls (.int y :: .int x :: st) := by
  subst hp; exact WP.step (fun p e s m args below meth c T L C X hT target k => XS.iand X.here C.1 rfl (hb C.2.2.2.1 hd) rfl k) H
theorem WP.ior {x : Int32} {y : Int32} (hd : decode B.bytes pc = .ok (.ior, 1)) (hp : pc + 1 = pc') (H : WP l B Z n0 Q h cs sl pc' ls (.int (x ||| y) :: st)) : WP l B Z n0 Q h cs sl pc ls (.int y :: .int x :: st) := by
  subst hp; exact WP.step (fun p e s m args below meth c T L C X hT target k => XS.ior X.here C.1 rfl (hb C.2.2.2.1 hd) rfl k) H
theorem WP.ixor {x : Int32} {y : Int32} (hd : decode B.bytes pc = .ok (.ixor, 1)) (hp : pc + 1 = pc') (H : WP l B Z n0 Q h cs sl pc' ls (.int (x ^^^ y) :: st)) : WP l B Z n0 Q h cs sl pc ls (.int y :: .int x :: st) := by
  subst hp; exact WP.step (fun p e s m args below meth c T L C X hT target k => XS.ixor X.here C.1 rfl (hb C.2.2.2.1 hd) rfl k) H
theorem WP.ladd {x : Int64} {y : Int64} (hd : decode B.bytes pc = .ok (.ladd, 1)) (hp : pc + 1 = pc') (H : WP l B Z n0 Q h cs sl pc' ls (.long (x + y) :: st)) : WP l B Z n0 Q h cs sl pc ls (.long y :: .long x :: st) := by
  subst hp; exact WP.step (fun p e s m args below meth c T L C X hT target k => XS.ladd X.here C.1 rfl (hb C.2.2.2.1 hd) rfl k) H
theorem WP.lsub {x : Int64} {y : Int64} (hd : decode B.bytes pc = .ok (.lsub, 1)) (hp : pc + 1 = pc') (H : WP l B Z n0 Q h cs sl pc' ls (.long (x - y) :: st)) : WP l B Z n0 Q h cs sl pc ls (.long y :: .long x :: st) := by
  subst hp; exact WP.step (fun p e s m args below meth c T L C X hT target k => XS.lsub X.here C.1 rfl (hb C.2.2.2.1 hd) rfl k) H
theorem WP.lmul {x : Int64} {y : Int64} (hd : decode B.bytes pc = .ok (.lmul, 1)) (hp : pc + 1 = pc') (H : WP l B Z n0 Q h cs sl pc' ls (.long (x * y) :: st)) : WP l B Z n0 Q h cs sl pc ls (.long y :: .long x :: st) := by
  subst hp; exact WP.step (fun p e s m args below meth c T L C X hT target k => XS.lmul X.here C.1 rfl (hb C.2.2.2.1 hd) rfl k) H
theorem WP.land {x : Int64} {y : Int64} (hd : decode B.bytes pc = .ok (.land, 1)) (hp : pc + 1 = pc') (H : WP l B Z n0 Q h cs sl pc' ls (.long (x &&& y) :: st)) : WP l B Z n0 Q h cs sl pc ls (.long y :: .long x :: st) := by
  subst hp; exact WP.step (fun p e s m args below meth c T L C X hT target k => XS.land X.here C.1 rfl (hb C.2.2.2.1 hd) rfl k) H
theorem WP.lor {x : Int64} {y : Int64} (hd : decode B.bytes pc = .ok (.lor, 1)) (hp : pc + 1 = pc') (H : WP l B Z n0 Q h cs sl pc' ls (.long (x ||| y) :: st)) : WP l B Z n0 Q h cs sl pc ls (.long y :: .long x :: st) := by
  subst hp; exact WP.step (fun p e s m args below meth c T L C X hT target k => XS.lor X.here C.1 rfl (hb C.2.2.2.1 hd) rfl k) H
theorem WP.lxor {x : Int64} {y : Int64} (hd : decode B.bytes pc = .ok (.lxor, 1)) (hp : pc + 1 = pc') (H : WP l B Z n0 Q h cs sl pc' ls (.long (x ^^^ y) :: st)) : WP l B Z n0 Q h cs sl pc ls (.long y :: .long x :: st) := by
  subst hp; exact WP.step (fun p e s m args below meth c T L C X hT target k => XS.lxor X.here C.1 rfl (hb C.2.2.2.1 hd) rfl k) H
theorem WP.ishl {x : Int32} {y : Int32} (hd : decode B.bytes pc = .ok (.ishl, 1)) (hp : pc + 1 = pc') (H : WP l B Z n0 Q h cs sl pc' ls (.int (x <<< (y &&& 31)) :: st)) : WP l B Z n0 Q h cs sl pc ls (.int y :: .int x :: st) := by
  subst hp; exact WP.step (fun p e s m args below meth c T L C X hT target k => XS.ishl X.here C.1 rfl (hb C.2.2.2.1 hd) rfl k) H
theorem WP.ishr {x : Int32} {y : Int32} (hd : decode B.bytes pc = .ok (.ishr, 1)) (hp : pc + 1 = pc') (H : WP l B Z n0 Q h cs sl pc' ls (.int (x >>> (y &&& 31)) :: st)) : WP l B Z n0 Q h cs sl pc ls (.int y :: .int x :: st) := by
  subst hp; exact WP.step (fun p e s m args below meth c T L C X hT target k => XS.ishr X.here C.1 rfl (hb C.2.2.2.1 hd) rfl k) H
theorem WP.iushr {x : Int32} {y : Int32} (hd : decode B.bytes pc = .ok (.iushr, 1)) (hp : pc + 1 = pc') (H : WP l B Z n0 Q h cs sl pc' ls (.int (ushr x y) :: st)) : WP l B Z n0 Q h cs sl pc ls (.int y :: .int x :: st) := by
  subst hp; exact WP.step (fun p e s m args below meth c T L C X hT target k => XS.iushr X.here C.1 rfl (hb C.2.2.2.1 hd) rfl k) H
theorem WP.lshl {x : Int64} {y : Int32} (hd : decode B.bytes pc = .ok (.lshl, 1)) (hp : pc + 1 = pc') (H : WP l B Z n0 Q h cs sl pc' ls (.long (x <<< (y &&& 63).toInt64) :: st)) : WP l B Z n0 Q h cs sl pc ls (.int y :: .long x :: st) := by
  subst hp; exact WP.step (fun p e s m args below meth c T L C X hT target k => XS.lshl X.here C.1 rfl (hb C.2.2.2.1 hd) rfl k) H
theorem WP.lshr {x : Int64} {y : Int32} (hd : decode B.bytes pc = .ok (.lshr, 1)) (hp : pc + 1 = pc') (H : WP l B Z n0 Q h cs sl pc' ls (.long (x >>> (y &&& 63).toInt64) :: st)) : WP l B Z n0 Q h cs sl pc ls (.int y :: .long x :: st) := by
  subst hp; exact WP.step (fun p e s m args below meth c T L C X hT target k => XS.lshr X.here C.1 rfl (hb C.2.2.2.1 hd) rfl k) H
theorem WP.lushr {x : Int64} {y : Int32} (hd : decode B.bytes pc = .ok (.lushr, 1)) (hp : pc + 1 = pc') (H : WP l B Z n0 Q h cs sl pc' ls (.long (ushrL x y) :: st)) : WP l B Z n0 Q h cs sl pc ls (.int y :: .long x :: st) := by
  subst hp; exact WP.step (fun p e s m args below meth c T L C X hT target k => XS.lushr X.here C.1 rfl (hb C.2.2.2.1 hd) rfl k) H
theorem WP.ineg {x : Int32}  (hd : decode B.bytes pc = .ok (.ineg, 1)) (hp : pc + 1 = pc') (H : WP l B Z n0 Q h cs sl pc' ls (.int (-x) :: st)) : WP l B Z n0 Q h cs sl pc ls (.int x :: st) := by
  subst hp; exact WP.step (fun p e s m args below meth c T L C X hT target k => XS.ineg X.here C.1 rfl (hb C.2.2.2.1 hd) rfl k) H
theorem WP.lneg {x : Int64}  (hd : decode B.bytes pc = .ok (.lneg, 1)) (hp : pc + 1 = pc') (H : WP l B Z n0 Q h cs sl pc' ls (.long (-x) :: st)) : WP l B Z n0 Q h cs sl pc ls (.long x :: st) := by
  subst hp; exact WP.step (fun p e s m args below meth c T L C X hT target k => XS.lneg X.here C.1 rfl (hb C.2.2.2.1 hd) rfl k) H
theorem WP.i2l {x : Int32}  (hd : decode B.bytes pc = .ok (.i2l, 1)) (hp : pc + 1 = pc') (H : WP l B Z n0 Q h cs sl pc' ls (.long x.toInt64 :: st)) : WP l B Z n0 Q h cs sl pc ls (.int x :: st) := by
  subst hp; exact WP.step (fun p e s m args below meth c T L C X hT target k => XS.i2l X.here C.1 rfl (hb C.2.2.2.1 hd) rfl k) H
theorem WP.l2i {x : Int64}  (hd : decode B.bytes pc = .ok (.l2i, 1)) (hp : pc + 1 = pc') (H : WP l B Z n0 Q h cs sl pc' ls (.int x.toInt32 :: st)) : WP l B Z n0 Q h cs sl pc ls (.long x :: st) := by
  subst hp; exact WP.step (fun p e s m args below meth c T L C X hT target k => XS.l2i X.here C.1 rfl (hb C.2.2.2.1 hd) rfl k) H
theorem WP.i2b {x : Int32}  (hd : decode B.bytes pc = .ok (.i2b, 1)) (hp : pc + 1 = pc') (H : WP l B Z n0 Q h cs sl pc' ls (.int x.toInt8.toInt32 :: st)) : WP l B Z n0 Q h cs sl pc ls (.int x :: st) := by
  subst hp; exact WP.step (fun p e s m args below meth c T L C X hT target k => XS.i2b X.here C.1 rfl (hb C.2.2.2.1 hd) rfl k) H
theorem WP.i2s {x : Int32}  (hd : decode B.bytes pc = .ok (.i2s, 1)) (hp : pc + 1 = pc') (H : WP l B Z n0 Q h cs sl pc' ls (.int x.toInt16.toInt32 :: st)) : WP l B Z n0 Q h cs sl pc ls (.int x :: st) := by
  subst hp; exact WP.step (fun p e s m args below meth c T L C X hT target k => XS.i2s X.here C.1 rfl (hb C.2.2.2.1 hd) rfl k) H
theorem WP.i2c {x : Int32}  (hd : decode B.bytes pc = .ok (.i2c, 1)) (hp : pc + 1 = pc') (H : WP l B Z n0 Q h cs sl pc' ls (.int x.toUInt32.toUInt16.toUInt32.toInt32 :: st)) : WP l B Z n0 Q h cs sl pc ls (.int x :: st) := by
  subst hp; exact WP.step (fun p e s m args below meth c T L C X hT target k => XS.i2c X.here C.1 rfl (hb C.2.2.2.1 hd) rfl k) H
/-! division (never by zero here), branches -/
theorem WP.irem {x y : Int32} (hd : decode B.bytes pc = .ok (.irem, 1)) (hy : y ≠ 0) (hp : pc + 1 = pc') (H : WP l B Z n0 Q h cs sl pc' ls (.int (x % y) :: st)) : WP l B Z n0 Q h cs sl pc ls (.int y :: .int x :: st) := by
  subst hp; exact WP.step (fun p e s m args below meth c T L C X hT target k => iremM X C.1 rfl (hb C.2.2.2.1 hd) rfl hy k) H
theorem WP.idiv {x y : Int32} (hd : decode B.bytes pc = .ok (.idiv, 1)) (hy : y ≠ 0) (hp : pc + 1 = pc') (H : WP l B Z n0 Q h cs sl pc' ls (.int (x / y) :: st)) : WP l B Z n0 Q h cs sl pc ls (.int y :: .int x :: st) := by
  subst hp; exact WP.step (fun p e s m args below meth c T L C X hT target k => XS.idiv X.here C.1 rfl (hb C.2.2.2.1 hd) rfl hy k) H
theorem WP.lrem {x y : Int64} (hd : decode B.bytes pc = .ok (.lrem, 1)) (hy : y ≠ 0) (hp : pc + 1 = pc') (H : WP l B Z n0 Q h cs sl pc' ls (.long (x - x / y * y) :: st)) : WP l B Z n0 Q h cs sl pc ls (.long y :: .long x :: st) := by
  subst hp; exact WP.step (fun p e s m args below meth c T L C X hT target k => XS.lrem X.here C.1 rfl (hb C.2.2.2.1 hd) rfl hy k) H
theorem WP.goto {o : Int} (hd : decode B.bytes pc = .ok (.goto o, 3)) (ht : (pc : Int) + o = (pc' : Int)) (H : WP l B Z n0 Q h cs sl pc' ls st) : WP l B Z n0 Q h cs sl pc ls st :=
  WP.step (fun p e s m args below meth c T L C X hT target k => XS.goto X.here C.1 rfl (pc0 := pc) (pc' := pc') rfl (hb C.2.2.2.1 hd) (by omega) (by omega) k) H
theorem own_holds (cd : ClassFile.Cond) (x y : Int32) : if_icmp.holds cd x y = match cd with | .eq => decide (x.toInt = y.toInt) | .ne => decide (x.toInt ≠ y.toInt) | .lt => decide (x.toInt < y.toInt) | .ge => decide (y.toInt ≤ x.toInt) | .gt => decide (y.toInt < x.toInt) | .le => decide (x.toInt ≤ y.toInt) := by
  have q : x = y ↔ x.toInt = y.toInt := ⟨fun h => by rw [h], Int32.toInt_inj.mp⟩
  by_cases e : x = y
  · subst e
    cases cd <;> simp [if_icmp.holds]
  · have e' : ¬ x.toInt = y.toInt := fun h => e (q.mpr h)
    cases cd <;> simp [if_icmp.holds, e, e', Int32.lt_iff_toInt_lt, Int32.le_iff_toInt_le]
theorem own_cmpL (cd : ClassFile.Cond) (x y : Int64) : if_icmp.holds cd (cmpL x y) 0 = match cd with | .eq => decide (x.toInt = y.toInt) | .ne => decide (x.toInt ≠ y.toInt) | .lt => decide (x.toInt < y.toInt) | .ge => decide (y.toInt ≤ x.toInt) | .gt => decide (y.toInt < x.toInt) | .le => decide (x.toInt ≤ y.toInt) := by
  have q : x = y ↔ x.toInt = y.toInt := ⟨fun h => by rw [h], Int64.toInt_inj.mp⟩
  rw [own_holds]
  simp only [cmpL, GT.gt, Int64.lt_iff_toInt_lt, q]
  have e1 : (1 : Int32).toInt = 1 := rfl
  have e0 : (0 : Int32).toInt = 0 := rfl
  have em : (-1 : Int32).toInt = -1 := rfl
  by_cases c1 : y.toInt < x.toInt
  · simp only [c1, if_true, e1, e0]
    cases cd <;> simp <;> omega
  · by_cases c2 : x.toInt = y.toInt
    · simp only [c2, Int.lt_irrefl, if_false, if_true, e0]
      cases cd <;> simp
    · simp only [c1, c2, if_false, em, e0]
      cases cd <;> simp <;> omega
theorem WP.icmp {cd : ClassFile.Cond} {x y : Int32} {o : Int} {tgt : Nat} (hd : decode B.bytes pc = .ok (.if_icmp cd o, 3)) (ht : (pc : Int) + o = (tgt : Int)) (hp : pc + 3 = pc') (HY : if_icmp.holds cd x y = true → WP l B Z n0 Q h cs sl tgt ls st) (HN : if_icmp.holds cd x y = false → WP l B Z n0 Q h cs sl pc' ls st) : WP l B Z n0 Q h cs sl pc ls (.int y :: .int x :: st) := by
  subst hp
  cases hc : if_icmp.holds cd x y
  · exact WP.step (fun p e s m args below meth c T L C X hT target k => XS.icmpNo X.here C.1 rfl (hb C.2.2.2.1 hd) rfl hc k) (HN hc)
  · exact WP.step (fun p e s m args below meth c T L C X hT target k => XS.icmpYes X.here C.1 rfl (pc0 := pc) (pc' := tgt) rfl (hb C.2.2.2.1 hd) rfl hc (by omega) (by omega) k) (HY hc)
theorem WP.ifc {cd : ClassFile.Cond} {x : Int32} {o : Int} {tgt : Nat} (hd : decode B.bytes pc = .ok (.ifCond cd o, 3)) (ht : (pc : Int) + o = (tgt : Int)) (hp : pc + 3 = pc') (HY : if_icmp.holds cd x 0 = true → WP l B Z n0 Q h cs sl tgt ls st) (HN : if_icmp.holds cd x 0 = false → WP l B Z n0 Q h cs sl pc' ls st) : WP l B Z n0 Q h cs sl pc ls (.int x :: st) := by
  subst hp
  cases hc : if_icmp.holds cd x 0
  · exact WP.step (fun p e s m args below meth c T L C X hT target k => XS.ifNo X.here C.1 rfl (hb C.2.2.2.1 hd) rfl ((if0 _ _).trans hc) k) (HN hc)
  · exact WP.step (fun p e s m args below meth c T L C X hT target k => XS.ifYes X.here C.1 rfl (pc0 := pc) (pc' := tgt) rfl (hb C.2.2.2.1 hd) rfl ((if0 _ _).trans hc) (by omega) (by omega) k) (HY hc)
theorem WP.lcmp {x y : Int64} (hd : decode B.bytes pc = .ok (.lcmp, 1)) (hp : pc + 1 = pc') (H : WP l B Z n0 Q h cs sl pc' ls (.int (cmpL x y) :: st)) : WP l B Z n0 Q h cs sl pc ls (.long y :: .long x :: st) := by
  subst hp; exact WP.step (fun p e s m args below meth c T L C X hT target k => XS.lcmp X.here C.1 rfl (hb C.2.2.2.1 hd) rfl k) H
theorem WP.icmpEq {x y : Int32} {o : Int} {tgt : Nat} (hd : decode B.bytes pc = .ok (.if_icmp .eq o, 3)) (ht : (pc : Int) + o = (tgt : Int)) (hp : pc + 3 = pc') (HY : x.toInt = y.toInt → WP l B Z n0 Q h cs sl tgt ls st) (HN : x.toInt ≠ y.toInt → WP l B Z n0 Q h cs sl pc' ls st) : WP l B Z n0 Q h cs sl pc ls (.int y :: .int x :: st) :=
  WP.icmp hd ht hp (fun q => HY (by rw [own_holds] at q; simpa using q)) (fun q => HN (by rw [own_holds] at q; simpa using q))
theorem WP.ifEq {x : Int32} {o : Int} {tgt : Nat} (hd : decode B.bytes pc = .ok (.ifCond .eq o, 3)) (ht : (pc : Int) + o = (tgt : Int)) (hp : pc + 3 = pc') (HY : x.toInt = 0 → WP l B Z n0 Q h cs sl tgt ls st) (HN : x.toInt ≠ 0 → WP l B Z n0 Q h cs sl pc' ls st) : WP l B Z n0 Q h cs sl pc ls (.int x :: st) :=
  WP.ifc hd ht hp (fun q => HY (by rw [own_holds] at q; simpa using q)) (fun q => HN (by rw [own_holds] at q; simpa using q))
theorem WP.lcmpEq {x y : Int64} {o : Int} {tgt pc1 : Nat} (hd : decode B.bytes pc = .ok (.lcmp, 1)) (h1 : pc + 1 = pc1) (hd1 : decode B.bytes pc1 = .ok (.ifCond .eq o, 3)) (ht : (pc1 : Int) + o = (tgt : Int)) (hp : pc1 + 3 = pc') (HY : x.toInt = y.toInt → WP l B Z n0 Q h cs sl tgt ls st) (HN : x.toInt ≠ y.toInt → WP l B Z n0 Q h cs sl pc' ls st) : WP l B Z n0 Q h cs sl pc ls (.long y :: .long x :: st) :=
  WP.lcmp hd h1 (WP.ifc hd1 ht hp (fun q => HY (by rw [own_cmpL] at q; simpa using q)) (fun q => HN (by rw [own_cmpL] at q; simpa using q)))
theorem WP.icmpNe {x y : Int32} {o : Int} {tgt : Nat} (hd : decode B.bytes pc = .ok (.if_icmp .ne o, 3)) (ht : (pc : Int) + o = (tgt : Int)) (hp : pc + 3 = pc') (HY : x.toInt ≠ y.toInt → WP l B Z n0 Q h cs sl tgt ls st) (HN : x.toInt = y.toInt → WP l B Z n0 Q h cs sl pc' ls st) : WP l B Z n0 Q h cs sl pc ls (.int y :: .int x :: st) :=
  WP.icmp hd ht hp (fun q => HY (by rw [own_holds] at q; simpa using q)) (fun q => HN (by rw [own_holds] at q; simpa using q))
theorem WP.ifNe {x : Int32} {o : Int} {tgt : Nat} (hd : decode B.bytes pc = .ok (.ifCond .ne o, 3)) (ht : (pc : Int) + o = (tgt : Int)) (hp : pc + 3 = pc') (HY : x.toInt ≠ 0 → WP l B Z n0 Q h cs sl tgt ls st) (HN : x.toInt = 0 → WP l B Z n0 Q h cs sl pc' ls st) : WP l B Z n0 Q h cs sl pc ls (.int x :: st) :=
  WP.ifc hd ht hp (fun q => HY (by rw [own_holds] at q; simpa using q)) (fun q => HN (by rw [own_holds] at q; simpa using q))
theorem WP.lcmpNe {x y : Int64} {o : Int} {tgt pc1 : Nat} (hd : decode B.bytes pc = .ok (.lcmp, 1)) (h1 : pc + 1 = pc1) (hd1 : decode B.bytes pc1 = .ok (.ifCond .ne o, 3)) (ht : (pc1 : Int) + o = (tgt : Int)) (hp : pc1 + 3 = pc') (HY : x.toInt ≠ y.toInt → WP l B Z n0 Q h cs sl tgt ls st) (HN : x.toInt = y.toInt → WP l B Z n0 Q h cs sl pc' ls st) : WP l B Z n0 Q h cs sl pc ls (.long y :: .long x :: st) :=
  WP.lcmp hd h1 (WP.ifc hd1 ht hp (fun q => HY (by rw [own_cmpL] at q; simpa using q)) (fun q => HN (by rw [own_cmpL] at q; simpa using q)))
theorem WP.icmpLt {x y : Int32} {o : Int} {tgt : Nat} (hd : decode B.bytes pc = .ok (.if_icmp .lt o, 3)) (ht : (pc : Int) + o = (tgt : Int)) (hp : pc + 3 = pc') (HY : x.toInt < y.toInt → WP l B Z n0 Q h cs sl tgt ls st) (HN : y.toInt ≤ x.toInt → WP l B Z n0 Q h cs sl pc' ls st) : WP l B Z n0 Q h cs sl pc ls (.int y :: .int x :: st) :=
  WP.icmp hd ht hp (fun q => HY (by rw [own_holds] at q; simpa using q)) (fun q => HN (by rw [own_holds] at q; simpa using q))
theorem WP.ifLt {x : Int32} {o : Int} {tgt : Nat} (hd : decode B.bytes pc = .ok (.ifCond .lt o, 3)) (ht : (pc : Int) + o = (tgt : Int)) (hp : pc + 3 = pc') (HY : x.toInt < 0 → WP l B Z n0 Q h cs sl tgt ls st) (HN : 0 ≤ x.toInt → WP l B Z n0 Q h cs sl pc' ls st) : WP l B Z n0 Q h cs sl pc ls (.int x :: st) :=
  WP.ifc hd ht hp (fun q => HY (by rw [own_holds] at q; simpa using q)) (fun q => HN (by rw [own_holds] at q; simpa using q))
theorem WP.lcmpLt {x y : Int64} {o : Int} {tgt pc1 : Nat} (hd : decode B.bytes pc = .ok (.lcmp, 1)) (h1 : pc + 1 = pc1) (hd1 : decode B.bytes pc1 = .ok (.ifCond .lt o, 3)) (ht : (pc1 : Int) + o = (tgt : Int)) (hp : pc1 + 3 = pc') (HY : x.toInt < y.toInt → WP l B Z n0 Q h cs sl tgt ls st) (HN : y.toInt ≤ x.toInt → WP l B Z n0 Q h cs sl pc' ls st) : WP l B Z n0 Q h cs sl pc ls (.long y :: .long x :: st) :=
  WP.lcmp hd h1 (WP.ifc hd1 ht hp (fun q => HY (by rw [own_cmpL] at q; simpa using q)) (fun q => HN (by rw [own_cmpL] at q; simpa using q)))
theorem WP.icmpGe {x y : Int32} {o : Int} {tgt : Nat} (hd : decode B.bytes pc = .ok (.if_icmp .ge o, 3)) (ht : (pc : Int) + o = (tgt : Int)) (hp : pc + 3 = pc') (HY : y.toInt ≤ x.toInt → WP l B Z n0 Q h cs sl tgt ls st) (HN : x.toInt < y.toInt → WP l B Z n0 Q h cs sl pc' ls st) : WP l B Z n0 Q h cs sl pc ls (.int y :: .int x :: st) :=
  WP.icmp hd ht hp (fun q => HY (by rw [own_holds] at q; simpa using q)) (fun q => HN (by rw [own_holds] at q; simpa using q))
theorem WP.ifGe {x : Int32} {o : Int} {tgt : Nat} (hd : decode B.bytes pc = .ok (.ifCond .ge o, 3)) (ht : (pc : Int) + o = (tgt : Int)) (hp : pc + 3 = pc') (HY : 0 ≤ x.toInt → WP l B Z n0 Q h cs sl tgt ls st) (HN : x.toInt < 0 → WP l B Z n0 Q h cs sl pc' ls st) : WP l B Z n0 Q h cs sl pc ls (.int x :: st) :=
  WP.ifc hd ht hp (fun q => HY (by rw [own_holds] at q; simpa using q)) (fun q => HN (by rw [own_holds] at q; simpa using q))
theorem WP.lcmpGe {x y : Int64} {o : Int} {tgt pc1 : Nat} (hd : decode B.bytes pc = .ok (.lcmp, 1)) (h1 : pc + 1 = pc1) (hd1 : decode B.bytes pc1 = .ok (.ifCond .ge o, 3)) (ht : (pc1 : Int) + o = (tgt : Int)) (hp : pc1 + 3 = pc') (HY : y.toInt ≤ x.toInt → WP l B Z n0 Q h cs sl tgt ls st) (HN : x.toInt < y.toInt → WP l B Z n0 Q h cs sl pc' ls st) : WP l B Z n0 Q h cs sl pc ls (.long y :: .long x :: st) :=
  WP.lcmp hd h1 (WP.ifc hd1 ht hp (fun q => HY (by rw [own_cmpL] at q; simpa using q)) (fun q => HN (by rw [own_cmpL] at q; simpa using q)))
theorem WP.icmpGt {x y : Int32} {o : Int} {tgt : Nat} (hd : decode B.bytes pc = .ok (.if_icmp .gt o, 3)) (ht : (pc : Int) + o = (tgt : Int)) (hp : pc + 3 = pc') (HY : y.toInt < x.toInt → WP l B Z n0 Q h cs sl tgt ls st) (HN : x.toInt ≤ y.toInt → WP l B Z n0 Q h cs sl pc' ls st) : WP l B Z n0 Q h cs sl pc ls (.int y :: .int x :: st) :=
  WP.icmp hd ht hp (fun q => HY (by rw [own_holds] at q; simpa using q)) (fun q => HN (by rw [own_holds] at q; simpa using q))
theorem WP.ifGt {x : Int32} {o : Int} {tgt : Nat} (hd : decode B.bytes pc = .ok (.ifCond .gt o, 3)) (ht : (pc : Int) + o = (tgt : Int)) (hp : pc + 3 = pc') (HY : 0 < x.toInt → WP l B Z n0 Q h cs sl tgt ls st) (HN : x.toInt ≤ 0 → WP l B Z n0 Q h cs sl pc' ls st) : WP l B Z n0 Q h cs sl pc ls (.int x :: st) :=
  WP.ifc hd ht hp (fun q => HY (by rw [own_holds] at q; simpa using q)) (fun q => HN (by rw [own_holds] at q; simpa using q))
theorem WP.lcmpGt {x y : Int64} {o : Int} {tgt pc1 : Nat} (hd : decode B.bytes pc = .ok (.lcmp, 1)) (h1 : pc + 1 = pc1) (hd1 : decode B.bytes pc1 = .ok (.ifCond .gt o, 3)) (ht : (pc1 : Int) + o = (tgt : Int)) (hp : pc1 + 3 = pc') (HY : y.toInt < x.toInt → WP l B Z n0 Q h cs sl tgt ls st) (HN : x.toInt ≤ y.toInt → WP l B Z n0 Q h cs sl pc' ls st) : WP l B Z n0 Q h cs sl pc ls (.long y :: .long x :: st) :=
  WP.lcmp hd h1 (WP.ifc hd1 ht hp (fun q => HY (by rw [own_cmpL] at q; simpa using q)) (fun q => HN (by rw [own_cmpL] at q; simpa using q)))
theorem WP.icmpLe {x y : Int32} {o : Int} {tgt : Nat} (hd : decode B.bytes pc = .ok (.if_icmp .le o, 3)) (ht : (pc : Int) + o = (tgt : Int)) (hp : pc + 3 = pc') (HY : x.toInt ≤ y.toInt → WP l B Z n0 Q h cs sl tgt ls st) (HN : y.toInt < x.toInt → WP l B Z n0 Q h cs sl pc' ls st) : WP l B Z n0 Q h cs sl pc ls (.int y :: .int x :: st) :=
  WP.icmp hd ht hp (fun q => HY (by rw [own_holds] at q; simpa using q)) (fun q => HN (by rw [own_holds] at q; simpa using q))
theorem WP.ifLe {x : Int32} {o : Int} {tgt : Nat} (hd : decode B.bytes pc = .ok (.ifCond .le o, 3)) (ht : (pc : Int) + o = (tgt : Int)) (hp : pc + 3 = pc') (HY : x.toInt ≤ 0 → WP l B Z n0 Q h cs sl tgt ls st) (HN : 0 < x.toInt → WP l B Z n0 Q h cs sl pc' ls st) : WP l B Z n0 Q h cs sl pc ls (.int x :: st) :=
  WP.ifc hd ht hp (fun q => HY (by rw [own_holds] at q; simpa using q)) (fun q => HN (by rw [own_holds] at q; simpa using q))
theorem WP.lcmpLe {x y : Int64} {o : Int} {tgt pc1 : Nat} (hd : decode B.bytes pc = .ok (.lcmp, 1)) (h1 : pc + 1 = pc1) (hd1 : decode B.bytes pc1 = .ok (.ifCond .le o, 3)) (ht : (pc1 : Int) + o = (tgt : Int)) (hp : pc1 + 3 = pc') (HY : x.toInt ≤ y.toInt → WP l B Z n0 Q h cs sl tgt ls st) (HN : y.toInt < x.toInt → WP l B Z n0 Q h cs sl pc' ls st) : WP l B Z n0 Q h cs sl pc ls (.long y :: .long x :: st) :=
  WP.lcmp hd h1 (WP.ifc hd1 ht hp (fun q => HY (by rw [own_cmpL] at q; simpa using q)) (fun q => HN (by rw [own_cmpL] at q; simpa using q)))
theorem WP.ifnullY {o : Int} (hd : decode B.bytes pc = .ok (.ifnull o, 3)) (ht : (pc : Int) + o = (pc' : Int)) (H : WP l B Z n0 Q h cs sl pc' ls st) : WP l B Z n0 Q h cs sl pc ls (.null :: st) :=
  WP.step (fun p e s m args below meth c T L C X hT target k => XS.ifnullYes X.here C.1 rfl (pc0 := pc) (pc' := pc') rfl (hb C.2.2.2.1 hd) rfl (by omega) (by omega) k) H
theorem WP.ifnullN {o : Int} {a : Addr} (hd : decode B.bytes pc = .ok (.ifnull o, 3)) (hp : pc + 3 = pc') (H : WP l B Z n0 Q h cs sl pc' ls st) : WP l B Z n0 Q h cs sl pc ls (.ref a :: st) := by
  subst hp; exact WP.step (fun p e s m args below meth c T L C X hT target k => XS.ifnullNo X.here C.1 rfl (hb C.2.2.2.1 hd) rfl k) H
theorem WP.ifnonnullN {o : Int} (hd : decode B.bytes pc = .ok (.ifnonnull o, 3)) (hp : pc + 3 = pc') (H : WP l B Z n0 Q h cs sl pc' ls st) : WP l B Z n0 Q h cs sl pc ls (.null :: st) := by
  subst hp; exact WP.step (fun p e s m args below meth c T L C X hT target k => XS.ifnonnullNo X.here C.1 rfl (hb C.2.2.2.1 hd) rfl k) H
theorem WP.ifnonnullY {o : Int} {a : Addr} (hd : decode B.bytes pc = .ok (.ifnonnull o, 3)) (ht : (pc : Int) + o = (pc' : Int)) (H : WP l B Z n0 Q h cs sl pc' ls st) : WP l B Z n0 Q h cs sl pc ls (.ref a :: st) :=
  WP.step (fun p e s m args below meth c T L C X hT target k => XS.ifnonnullYes X.here C.1 rfl (pc0 := pc) (pc' := pc') rfl (hb C.2.2.2.1 hd) rfl (by omega) (by omega) k) H
theorem WP.acmpEq {x y : Value} {o : Int} {tgt : Nat} (hd : decode B.bytes pc = .ok (.if_acmp .eq o, 3)) (ht : (pc : Int) + o = (tgt : Int)) (hp : pc + 3 = pc') (h1 : x.isRef = true) (h2 : y.isRef = true) (HY : x = y → WP l B Z n0 Q h cs sl tgt ls st) (HN : x ≠ y → WP l B Z n0 Q h cs sl pc' ls st) : WP l B Z n0 Q h cs sl pc ls (y :: x :: st) := by
  subst hp
  have e1 : ((pc : Int) + o).toNat = tgt := by omega
  by_cases q : x = y
  · exact WP.step (fun p e s m args below meth c T L C X hT target k => Jvm.RoadKit.acmp (g := mkF m pc ls (y :: x :: st)) X C.1 rfl h1 h2 (pc0 := pc) (pc' := tgt) (same := true) rfl (hb C.2.2.2.1 hd) rfl (by simp [q]) (by omega) (by simp [acV, e1]) k) (HY q)
  · exact WP.step (fun p e s m args below meth c T L C X hT target k => Jvm.RoadKit.acmp (g := mkF m pc ls (y :: x :: st)) X C.1 rfl h1 h2 (pc0 := pc) (pc' := pc + 3) (same := false) rfl (hb C.2.2.2.1 hd) rfl (by simp [q]) (by omega) (by simp [acV]) k) (HN q)
theorem WP.acmpNe {x y : Value} {o : Int} {tgt : Nat} (hd : decode B.bytes pc = .ok (.if_acmp .ne o, 3)) (ht : (pc : Int) + o = (tgt : Int)) (hp : pc + 3 = pc') (h1 : x.isRef = true) (h2 : y.isRef = true) (HY : x ≠ y → WP l B Z n0 Q h cs sl tgt ls st) (HN : x = y → WP l B Z n0 Q h cs sl pc' ls st) : WP l B Z n0 Q h cs sl pc ls (y :: x :: st) := by
  subst hp
  have e1 : ((pc : Int) + o).toNat = tgt := by omega
  by_cases q : x = y
  · exact WP.step (fun p e s m args below meth c T L C X hT target k => Jvm.RoadKit.acmp (g := mkF m pc ls (y :: x :: st)) X C.1 rfl h1 h2 (pc0 := pc) (pc' := pc + 3) (same := true) rfl (hb C.2.2.2.1 hd) rfl (by simp [q]) (by omega) (by simp [acV]) k) (HN q)
  · exact WP.step (fun p e s m args below meth c T L C X hT target k => Jvm.RoadKit.acmp (g := mkF m pc ls (y :: x :: st)) X C.1 rfl h1 h2 (pc0 := pc) (pc' := tgt) (same := false) rfl (hb C.2.2.2.1 hd) rfl (by simp [q]) (by omega) (by simp [acV, e1]) k) (HY q)
/-! returns -/
theorem WP.ret0 (hd : decode B.bytes pc = .ok (.return_, 1)) (hr : B.ret = none) (hc : cs ≤ B.room.cells) (hs : sl ≤ B.room.slots) (hQ : Q none h) : WP l B Z n0 Q h cs sl pc ls [] := by
  intro p e s m args below meth c T L C X hT N hn
  obtain ⟨hx, hZ, hown, hby, hml, hret, hlk, hnm⟩ := C
  obtain ⟨fs, hrr, hrun, hended, hW, hsame⟩ := X.leave (v := none) (fun _ => rfl) hlk
  have hh : (T.setFrames fs).heap = h := hT
  exact ⟨T.setFrames fs, none, L, X.returnOut hx (hret.trans hr) (hb hby hd) hrr, hrun, hended, by rw [hh]; exact hQ, N, by rw [hh]; exact hn, ⟨_, rfl⟩, hW, hsame.mono hc hs⟩
theorem WP.retI {z : Int32} (hd : decode B.bytes pc = .ok (.ireturn, 1)) (hr : B.ret = some .int) (hc : cs ≤ B.room.cells) (hs : sl ≤ B.room.slots) (hQ : Q (some (.int z)) h) : WP l B Z n0 Q h cs sl pc ls (.int z :: st) := by
  intro p e s m args below meth c T L C X hT N hn
  obtain ⟨hx, hZ, hown, hby, hml, hret, hlk, hnm⟩ := C
  obtain ⟨fs, hrr, hrun, hended, hW, hsame⟩ := X.leave (v := some (.int z)) (fun q => by rw [hret, hr] at q; cases q) hlk
  have hh : (T.setFrames fs).heap = h := hT
  exact ⟨T.setFrames fs, _, L, retOut X hx (hret.trans hr) rfl (Or.inl ⟨rfl, Or.inl rfl, z, rfl⟩) (hb hby hd) hrr, hrun, hended, by rw [hh]; exact hQ, N, by rw [hh]; exact hn, ⟨_, rfl⟩, hW, hsame.mono hc hs⟩
theorem WP.retN {z : Int32} {t : FieldType} (hd : decode B.bytes pc = .ok (.ireturn, 1)) (hr : B.ret = some t) (ht : t = .boolean ∨ t = .byte ∨ t = .char ∨ t = .short) (hc : cs ≤ B.room.cells) (hs : sl ≤ B.room.slots) (hQ : Q (some (.int (nar t z))) h) : WP l B Z n0 Q h cs sl pc ls (.int z :: st) := by
  intro p e s m args below meth c T L C X hT N hn
  obtain ⟨hx, hZ, hown, hby, hml, hret, hlk, hnm⟩ := C
  obtain ⟨fs, hrr, hrun, hended, hW, hsame⟩ := X.leave (v := some (.int (nar t z))) (fun q => by rw [hret, hr] at q; cases q) hlk
  have hh : (T.setFrames fs).heap = h := hT
  exact ⟨T.setFrames fs, _, L, Jvm.RoadKit.retN X hx (hret.trans hr) ht (hb hby hd) hrr, hrun, hended, by rw [hh]; exact hQ, N, by rw [hh]; exact hn, ⟨_, rfl⟩, hW, hsame.mono hc hs⟩
theorem WP.retJ {z : Int64} (hd : decode B.bytes pc = .ok (.lreturn, 1)) (hr : B.ret = some .long) (hc : cs ≤ B.room.cells) (hs : sl ≤ B.room.slots) (hQ : Q (some (.long z)) h) : WP l B Z n0 Q h cs sl pc ls (.long z :: st) := by
  intro p e s m args below meth c T L C X hT N hn
  obtain ⟨hx, hZ, hown, hby, hml, hret, hlk, hnm⟩ := C
  obtain ⟨fs, hrr, hrun, hended, hW, hsame⟩ := X.leave (v := some (.long z)) (fun q => by rw [hret, hr] at q; cases q) hlk
  have hh : (T.setFrames fs).heap = h := hT
  exact ⟨T.setFrames fs, _, L, retOut X hx (hret.trans hr) rfl (Or.inr (Or.inl ⟨rfl, rfl, z, rfl⟩)) (hb hby hd) hrr, hrun, hended, by rw [hh]; exact hQ, N, by rw [hh]; exact hn, ⟨_, rfl⟩, hW, hsame.mono hc hs⟩
theorem WP.retA {z : Value} {t : FieldType} (hd : decode B.bytes pc = .ok (.areturn, 1)) (hr : B.ret = some t) (ht : t.isReference = true) (hz : z.isRef = true) (hc : cs ≤ B.room.cells) (hs : sl ≤ B.room.slots) (hQ : Q (some z) h) : WP l B Z n0 Q h cs sl pc ls (z :: st) := by
  intro p e s m args below meth c T L C X hT N hn
  obtain ⟨hx, hZ, hown, hby, hml, hret, hlk, hnm⟩ := C
  obtain ⟨fs, hrr, hrun, hended, hW, hsame⟩ := X.leave (v := some z) (fun q => by rw [hret, hr] at q; cases q) hlk
  have hh : (T.setFrames fs).heap = h := hT
  have hnw : narrow t z = z := by rcases ref_cases hz with rfl | ⟨a, rfl⟩ <;> cases t <;> rfl
  exact ⟨T.setFrames fs, _, L, retOut X hx (hret.trans hr) hnw (Or.inr (Or.inr (Or.inr (Or.inr ⟨rfl, ht, hz⟩)))) (hb hby hd) hrr, hrun, hended, by rw [hh]; exact hQ, N, by rw [hh]; exact hn, ⟨_, rfl⟩, hW, hsame.mono hc hs⟩
/-! calls -/
theorem WP.callS {y : MethodName} {By : Bod} {as : List Value} {idx : Nat} {Qy : Option Value → Heap → Prop} {ps : List FieldType} {r : Option FieldType}
    (hd : decode B.bytes pc = .ok (.invokestatic idx, 3)) (w1 : (Cond.methodLink B.own idx y).before a0 Z = true) (w2 : (Cond.static y).before a0 Z = true) (w3 : (Cond.initialized y.cls).before a0 Z = true) (w4 : (Cond.code y By.bytes By.maxL By.ret).before a0 Z = true)
    (hy : y.cls ≠ "java/lang/invoke/MethodHandle" ∧ y.cls ≠ "java/lang/invoke/VarHandle") (hM : OMet l y By Z n0 as.toArray h Qy) (hpd : parseMethodDescriptor y.desc = some ⟨ps, r⟩) (hlen : as.length = ps.length) (hst : st = as.reverse ++ rest) (hls : ls.size = B.maxL)
    (hfr : By.room.frames + 1 ≤ B.room.frames) (hlo : (rest.map fun v => v.category).sum + (By.maxL + 11) + By.room.locals ≤ B.room.locals) (hc : cs + By.room.cells ≤ B.room.cells) (hs : sl + By.room.slots ≤ B.room.slots) (hp : pc + 3 = pc')
    (H : ∀ v h', Qy v h' → WP l B Z n0 Q h' (cs + By.room.cells) (sl + By.room.slots) pc' ls (v.toList ++ rest)) : WP l B Z n0 Q h cs sl pc ls st := by
  subst hp
  intro p e s m args below meth c T L C X hT N hn
  obtain ⟨hx, hZ, hown, hby, hml, hret, hlk, hnm⟩ := C
  obtain ⟨v, _, ⟨T1, L1, k1, n1⟩, -, X1, ⟨Lc, hQ, l1, y1, z1⟩, stp⟩ := Jvm.LawKit.callS X hx hown (mvT hZ w1) (mvT hZ w2) (mvT hZ w3) (mvT hZ w4) hy (backOf (W := (rest.map fun v => v.category).sum) (Q := fun v h' L => Qy v h' ∧ Fr n0 L ∧ n0 ≤ h'.size) (hM hn []) hZ w4 w3 hfr hlo) (g := mkF m pc ls st) rfl (by rw [hml]; exact hls) (argsL := as) (rest := rest) (lenOf hpd hlen) hst (by show 2 * 0 + _ ≤ _; omega) (hb hby hd) (fun _ _ => ⟨rfl, hT, hc, hs⟩)
  dsimp only [Pt.U, Pt.locs, Pt.cells, Pt.slots] at X1 l1 y1 z1 stp hQ
  subst l1 y1 z1
  obtain ⟨U, v', L', a1, rr⟩ := H v T1.heap hQ.1 p e s m args below meth c T1 _ ⟨hx, hZ, hown, hby, hml, hret, hlk, hnm⟩ X1 rfl (N.app hQ.2.1) hQ.2.2
  exact ⟨U, v', L', stp _ a1, rr⟩
theorem WP.callI {y : MethodName} {By : Bod} {as : List Value} {a : Addr} {idx : Nat} {Qy : Option Value → Heap → Prop} {ps : List FieldType} {r : Option FieldType}
    (hd : decode B.bytes pc = .ok (.invokespecial idx, 3)) (w1 : (Cond.methodLink B.own idx y).before a0 Z = true) (w2 : (Cond.instanceMethod y).before a0 Z = true) (w3 : (Cond.initialized y.cls).before a0 Z = true) (w4 : (Cond.code y By.bytes By.maxL By.ret).before a0 Z = true) (hyn : y.name = "<init>") (hyr : By.ret = none)
    (hy : y.cls ≠ "java/lang/invoke/MethodHandle" ∧ y.cls ≠ "java/lang/invoke/VarHandle") (hM : OMet l y By Z n0 (.ref a :: as).toArray h Qy) (hpd : parseMethodDescriptor y.desc = some ⟨ps, r⟩) (hlen : as.length = ps.length) (hst : st = as.reverse ++ .ref a :: rest) (hls : ls.size = B.maxL)
    (hfr : By.room.frames + 1 ≤ B.room.frames) (hlo : (rest.map fun v => v.category).sum + (By.maxL + 11) + By.room.locals ≤ B.room.locals) (hc : cs + By.room.cells ≤ B.room.cells) (hs : sl + By.room.slots ≤ B.room.slots) (hp : pc + 3 = pc')
    (H : ∀ v h', Qy v h' → WP l B Z n0 Q h' (cs + By.room.cells) (sl + By.room.slots) pc' ls (v.toList ++ rest)) : WP l B Z n0 Q h cs sl pc ls st := by
  subst hp
  intro p e s m args below meth c T L C X hT N hn
  obtain ⟨hx, hZ, hown, hby, hml, hret, hlk, hnm⟩ := C
  obtain ⟨v, _, ⟨T1, L1, k1, n1⟩, -, X1, ⟨Lc, hQ, l1, y1, z1⟩, stp⟩ := X.specialBack hx (y := y) hyn hown (mvT hZ w1) (mvT hZ w2) (mvT hZ (hyr ▸ w4)) hy (backOf (W := (rest.map fun v => v.category).sum) (Q := fun v h' L => Qy v h' ∧ Fr n0 L ∧ n0 ≤ h'.size) (hM hn []) hZ w4 w3 hfr hlo) (g := mkF m pc ls st) rfl (by rw [hml]; exact hls) (Steps.refl _) (a := a) (argsL := as) (rest := rest) (lenOf hpd hlen) hst (by show 2 * 0 + _ ≤ _; omega) (hb hby hd) (fun _ _ => ⟨rfl, hT, hc, hs⟩)
  dsimp only [Pt.U, Pt.locs, Pt.cells, Pt.slots] at X1 l1 y1 z1 stp hQ
  subst l1 y1 z1
  obtain ⟨U, v', L', a1, rr⟩ := H v T1.heap hQ.1 p e s m args below meth c T1 _ ⟨hx, hZ, hown, hby, hml, hret, hlk, hnm⟩ X1 rfl (N.app hQ.2.1) hQ.2.2
  exact ⟨U, v', L', stp.trans a1, rr⟩
theorem WP.callV {y z : MethodName} {By : Bod} {Cl : String} {as : List Value} {a : Addr} {idx : Nat} {Qy : Option Value → Heap → Prop} {ps : List FieldType} {r : Option FieldType}
    (hd : decode B.bytes pc = .ok (.invokevirtual idx, 3)) (w1 : (Cond.methodLink B.own idx y).before a0 Z = true) (w2 : (Cond.declares y).before a0 Z = true) (w5 : (Cond.selects Cl y z).before a0 Z = true) (w6 : (Cond.instanceMethod z).before a0 Z = true) (w3 : (Cond.initialized z.cls).before a0 Z = true) (w4 : (Cond.code z By.bytes By.maxL By.ret).before a0 Z = true) (hyz : y = z) (hcl : Cl = y.cls)
    (hy : y.cls ≠ "java/lang/invoke/MethodHandle" ∧ y.cls ≠ "java/lang/invoke/VarHandle") (E : Exa Z h a Cl) (hM : OMet l z By Z n0 (.ref a :: as).toArray h Qy) (hpd : parseMethodDescriptor y.desc = some ⟨ps, r⟩) (hlen : as.length = ps.length) (hst : st = as.reverse ++ .ref a :: rest) (hls : ls.size = B.maxL)
    (hfr : By.room.frames + 1 ≤ B.room.frames) (hlo : (rest.map fun v => v.category).sum + (By.maxL + 11) + By.room.locals ≤ B.room.locals) (hc : cs + By.room.cells ≤ B.room.cells) (hs : sl + By.room.slots ≤ B.room.slots) (hp : pc + 3 = pc')
    (H : ∀ v h', Qy v h' → WP l B Z n0 Q h' (cs + By.room.cells) (sl + By.room.slots) pc' ls (v.toList ++ rest)) : WP l B Z n0 Q h cs sl pc ls st := by
  subst hp hyz hcl
  intro p e s m args below meth c T L C X hT N hn
  obtain ⟨hx, hZ, hown, hby, hml, hret, hlk, hnm⟩ := C
  obtain ⟨cq, kq, qa, qb, qc⟩ := isOf (T := T) hZ hT E
  obtain ⟨v, _, ⟨T1, L1, k1, n1⟩, -, X1, ⟨Lc, hQ, l1, y1, z1⟩, stp⟩ := X.virtualBack hx (y := y) (z := y) hown (mvT hZ w1) (mvT hZ w2) (notFace_of_selects (args := #[]) (mvT hZ w5)) (mvT hZ w5) (mvT hZ w6) hy (backOf (W := (rest.map fun v => v.category).sum) (Q := fun v h' L => Qy v h' ∧ Fr n0 L ∧ n0 ≤ h'.size) (hM hn []) hZ w4 w3 hfr hlo) qa qc (g := mkF m pc ls st) rfl (by rw [hml]; exact hls) (Steps.refl _) (argsL := as) (rest := rest) (lenOf hpd hlen) hst (by show 2 * 0 + _ ≤ _; omega) (hb hby hd) (fun _ _ => ⟨rfl, hT, hc, hs⟩)
  dsimp only [Pt.U, Pt.locs, Pt.cells, Pt.slots] at X1 l1 y1 z1 stp hQ
  subst l1 y1 z1
  obtain ⟨U, v', L', a1, rr⟩ := H v T1.heap hQ.1 p e s m args below meth c T1 _ ⟨hx, hZ, hown, hby, hml, hret, hlk, hnm⟩ X1 rfl (N.app hQ.2.1) hQ.2.2
  exact ⟨U, v', L', stp.trans a1, rr⟩
/-- Object.<init> -/
theorem WP.initO {a : Addr} {idx : Nat} (hd : decode B.bytes pc = .ok (.invokespecial idx, 3)) (w1 : (Cond.methodLink B.own idx Lib.objectInit).before a0 Z = true) (w2 : (Cond.instanceMethod Lib.objectInit).before a0 Z = true) (w3 : (Cond.code Lib.objectInit ⟨#[0xb1]⟩ 1 none).before a0 Z = true) (hls : ls.size = B.maxL) (hf : 1 ≤ B.room.frames) (hl : (rest.map fun v => v.category).sum + 12 ≤ B.room.locals) (hp : pc + 3 = pc')
    (H : WP l B Z n0 Q h cs sl pc' ls rest) : WP l B Z n0 Q h cs sl pc ls (.ref a :: rest) := by
  subst hp
  intro p e s m args below meth c T L C X hT N hn
  obtain ⟨hx, hZ, hown, hby, hml, hret, hlk, hnm⟩ := C
  obtain ⟨T1, X1, e1, stp⟩ := Jvm.RoadKit.initO X hx hZ hown w1 w2 w3 hT (g := mkF m pc ls (.ref a :: rest)) rfl (by rw [hml]; exact hls) rfl (hb hby hd) hf (W := (rest.map fun v => v.category).sum) (by show 2 * 0 + _ ≤ _; omega) hl
  obtain ⟨U, v', L', a1, rr⟩ := H p e s m args below meth c T1 _ ⟨hx, hZ, hown, hby, hml, hret, hlk, hnm⟩ X1 e1 N hn
  exact ⟨U, v', L', stp _ a1, rr⟩
/-! arrays: what one holds, place by place -/
def Av (Z : State) (h : Heap) (a : Addr) (ty : FieldType) (vs : List Value) : Prop := ∃ c : Cell, Arr Z h a c ty ∧ c.slots.toList = vs ∧ vs.length < 2 ^ 31
variable {a b : Addr} {ty : FieldType} {vs : List Value} {h' : Heap} {ws : List Addr}
theorem Av.lt (A : Av Z h a ty vs) : a < h.size := by obtain ⟨c, q, -⟩ := A; exact q.lt
theorem Av.keep (A : Av Z h a ty vs) (K : Keep h h' ws) (q : a ∉ ws) : Av Z h' a ty vs := by obtain ⟨c, A, r⟩ := A; exact ⟨c, ⟨K.2.1 a c A.1 q, A.2⟩, r⟩
theorem Av.len (A : Av Z h a ty vs) : vs.length < 2 ^ 31 := by obtain ⟨c, A, r, q⟩ := A; exact q
theorem own_idx {j : Int32} {i : Nat} (hj : j.toInt = (i : Int)) : j.toNatClampNeg = i ∧ ¬ j < 0 := by
  refine ⟨by simp [Int32.toNatClampNeg, hj], fun q => ?_⟩
  rw [Int32.lt_iff_toInt_lt] at q
  have : (0 : Int32).toInt = 0 := rfl
  omega
theorem Av.place {j : Int32} {i : Nat} {v : Value} {c : Cell} (e : c.slots.toList = vs) (hj : j.toInt = (i : Int)) (hv : vs[i]? = some v) : ¬ (j < 0 ∨ c.slots.size ≤ j.toNatClampNeg) ∧ c.slots[j.toNatClampNeg]? = some v := by
  obtain ⟨q1, q2⟩ := own_idx hj
  subst e
  rw [q1]
  have q3 : c.slots[i]? = some v := by simpa using hv
  refine ⟨fun q => q.elim q2 fun q => ?_, q3⟩
  have := (Array.getElem?_eq_some_iff.mp q3).1
  omega
theorem Keep.of_ext (E : Ext h h') : Keep h h' [] := (Keep.refl h []).ext E
theorem Av.set {i : Nat} {v : Value} {sl : Nat} (A : Av Z h a ty vs) (W : Wr h h' a sl v) (e : sl = i) : Av Z h' a ty (vs.set i v) := by
  subst e
  obtain ⟨c, A, r, q⟩ := A
  refine ⟨_, A.same W, ?_, by simpa using q⟩
  simp [Cell.setSlot, r]
theorem WP.newarr {aty : ArrayType} {n : Int32} {k : Nat} (hd : decode B.bytes pc = .ok (.newarray aty, 2)) (w : (Cond.arrayClass (newarray.typeOf aty)).before a0 Z = true) (hn : n.toInt = (k : Int)) (cap : Nat) (hcap : k ≤ cap) (hbig : cap * 8 ≤ 536870912) (hc : cs + 1 ≤ B.room.cells) (hs : sl + cap ≤ B.room.slots) (hp : pc + 2 = pc')
    (H : ∀ b h', b = h.size → n0 ≤ b → Keep h h' [] → Av Z h' b (newarray.typeOf aty) (List.replicate k (defaultValue (newarray.typeOf aty))) → WP l B Z n0 Q h' (cs + 1) (sl + cap) pc' ls (.ref b :: st)) : WP l B Z n0 Q h cs sl pc ls (.int n :: st) := by
  subst hp
  obtain ⟨q1, q2⟩ := own_idx hn
  refine WP.stepT (P := fun h' => Keep h h' [] ∧ n0 ≤ h.size ∧ Av Z h' h.size (newarray.typeOf aty) (List.replicate k (defaultValue (newarray.typeOf aty)))) ?_ (fun h' q => H h.size h' rfl q.2.1 q.1 q.2.2)
  intro p e s m args below meth c T L C X hT N hn'
  obtain ⟨T1, h1, cA, X1, e1, E1, A1, stp⟩ := newP X C.1 C.2.1 w hT (g := mkF m pc ls (.int n :: st)) rfl (hb C.2.2.2.1 hd) rfl q2 (cap := cap) (by omega) hbig hc hs
  refine ⟨T1, h1, L, X1, e1, N, Nat.le_trans hn' E1.1, ⟨Keep.of_ext E1, hn', _, A1, ?_, ?_⟩, stp⟩
  · simp [newA, q1]
  · simp; omega
theorem WP.alen {k : Int32} (hd : decode B.bytes pc = .ok (.arraylength, 1)) (A : Av Z h a ty vs) (hk : k.toInt = (vs.length : Int)) (hp : pc + 1 = pc') (H : WP l B Z n0 Q h cs sl pc' ls (.int k :: st)) : WP l B Z n0 Q h cs sl pc ls (.ref a :: st) := by
  subst hp
  obtain ⟨cl, A, r, q⟩ := A
  have e1 : cl.slots.size.toInt32 = k := by
    have e2 : cl.slots.size = vs.length := by rw [← r]; simp
    apply Int32.toInt_inj.mp
    rw [e2, hk]
    exact Int32.toInt_ofNat_of_lt q
  exact WP.step (fun p e s m args below meth c T L C X hT target k' => X.arraylength C.1 (by rw [hT]; exact A.1) (State.isArrayOf_alike C.2.1.alike A.2.1) (g := mkF m pc ls (.ref a :: st)) rfl rfl (hb C.2.2.2.1 hd) _ (by rw [e1]; exact k')) H
theorem WP.iaload {j : Int32} {x : Int32} (i : Nat) (hd : decode B.bytes pc = .ok (.iaload, 1)) (A : Av Z h a .int vs) (hj : j.toInt = (i : Int)) (hv : vs[i]? = some (.int x)) (hp : pc + 1 = pc') (H : WP l B Z n0 Q h cs sl pc' ls (.int x :: st)) : WP l B Z n0 Q h cs sl pc ls (.int j :: .ref a :: st) := by
  subst hp
  obtain ⟨cl, A, r, q⟩ := A
  obtain ⟨g1, g2⟩ := Av.place r hj hv
  exact WP.step (fun p e s m args below meth c T L C X hT target k' => X.iaload C.1 (by rw [hT]; exact A.1) (State.isArrayOf_alike C.2.1.alike A.2.1) A.2.2 g1 g2 (g := mkF m pc ls (.int j :: .ref a :: st)) rfl rfl (hb C.2.2.2.1 hd) _ k') H
theorem WP.laload {j : Int32} {x : Int64} (i : Nat) (hd : decode B.bytes pc = .ok (.laload, 1)) (A : Av Z h a .long vs) (hj : j.toInt = (i : Int)) (hv : vs[i]? = some (.long x)) (hp : pc + 1 = pc') (H : WP l B Z n0 Q h cs sl pc' ls (.long x :: st)) : WP l B Z n0 Q h cs sl pc ls (.int j :: .ref a :: st) := by
  subst hp
  obtain ⟨cl, A, r, q⟩ := A
  obtain ⟨g1, g2⟩ := Av.place r hj hv
  exact WP.step (fun p e s m args below meth c T L C X hT target k' => X.laload C.1 (by rw [hT]; exact A.1) (State.isArrayOf_alike C.2.1.alike A.2.1) A.2.2 g1 g2 (g := mkF m pc ls (.int j :: .ref a :: st)) rfl rfl (hb C.2.2.2.1 hd) _ k') H
theorem WP.caload {j : Int32} {x : Int32} (i : Nat) (hd : decode B.bytes pc = .ok (.caload, 1)) (A : Av Z h a .char vs) (hj : j.toInt = (i : Int)) (hv : vs[i]? = some (.int x)) (hp : pc + 1 = pc') (H : WP l B Z n0 Q h cs sl pc' ls (.int x :: st)) : WP l B Z n0 Q h cs sl pc ls (.int j :: .ref a :: st) := by
  subst hp
  obtain ⟨cl, A, r, q⟩ := A
  obtain ⟨g1, g2⟩ := Av.place r hj hv
  exact WP.step (fun p e s m args below meth c T L C X hT target k' => X.caload C.1 (by rw [hT]; exact A.1) (State.isArrayOf_alike C.2.1.alike A.2.1) A.2.2 g1 g2 (g := mkF m pc ls (.int j :: .ref a :: st)) rfl rfl (hb C.2.2.2.1 hd) _ k') H
theorem WP.baloadB {j : Int32} {x : Int32} (i : Nat) (hd : decode B.bytes pc = .ok (.baload, 1)) (A : Av Z h a .byte vs) (hj : j.toInt = (i : Int)) (hv : vs[i]? = some (.int x)) (hp : pc + 1 = pc') (H : WP l B Z n0 Q h cs sl pc' ls (.int x :: st)) : WP l B Z n0 Q h cs sl pc ls (.int j :: .ref a :: st) := by
  subst hp
  obtain ⟨cl, A, r, q⟩ := A
  obtain ⟨g1, g2⟩ := Av.place r hj hv
  exact WP.step (fun p e s m args below meth c T L C X hT target k' => X.baloadBytes C.1 (by rw [hT]; exact A.1) (State.isArrayOf_alike C.2.1.alike A.2.1) A.2.2 g1 g2 (g := mkF m pc ls (.int j :: .ref a :: st)) rfl rfl (hb C.2.2.2.1 hd) _ k') H
theorem WP.baloadZ {j : Int32} {x : Int32} (i : Nat) (hd : decode B.bytes pc = .ok (.baload, 1)) (A : Av Z h a .boolean vs) (hj : j.toInt = (i : Int)) (hv : vs[i]? = some (.int x)) (hp : pc + 1 = pc') (H : WP l B Z n0 Q h cs sl pc' ls (.int x :: st)) : WP l B Z n0 Q h cs sl pc ls (.int j :: .ref a :: st) := by
  subst hp
  obtain ⟨cl, A, r, q⟩ := A
  obtain ⟨g1, g2⟩ := Av.place r hj hv
  exact WP.step (fun p e s m args below meth c T L C X hT target k' => X.baloadBooleans C.1 (by rw [hT]; exact A.1) (State.isArrayOf_alike C.2.1.alike A.2.1) A.2.2 g1 g2 (g := mkF m pc ls (.int j :: .ref a :: st)) rfl rfl (hb C.2.2.2.1 hd) _ k') H
theorem WP.aaload {j : Int32} {x : Value} (i : Nat) (hd : decode B.bytes pc = .ok (.aaload, 1)) (A : Av Z h a ty vs) (hty : ty.isReference = true) (hj : j.toInt = (i : Int)) (hv : vs[i]? = some x) (hp : pc + 1 = pc') (H : WP l B Z n0 Q h cs sl pc' ls (x :: st)) : WP l B Z n0 Q h cs sl pc ls (.int j :: .ref a :: st) := by
  subst hp
  obtain ⟨cl, A, r, q⟩ := A
  obtain ⟨g1, g2⟩ := Av.place r hj hv
  exact WP.step (fun p e s m args below meth c T L C X hT target k' => X.aaload C.1 (by rw [hT]; exact A.1) (State.isArrayOf_alike C.2.1.alike A.2.1) hty A.2.2 g1 g2 (g := mkF m pc ls (.int j :: .ref a :: st)) rfl rfl (hb C.2.2.2.1 hd) _ k') H
theorem WP.iastore {j : Int32} {x : Int32} (i : Nat) (hd : decode B.bytes pc = .ok (.iastore, 1)) (A : Av Z h a .int vs) (hj : j.toInt = (i : Int)) (hi : i < vs.length) (ha : n0 ≤ a) (hp : pc + 1 = pc') (H : ∀ h', Keep h h' [a] → Av Z h' a .int (vs.set i (.int x)) → WP l B Z n0 Q h' cs sl pc' ls st) : WP l B Z n0 Q h cs sl pc ls (.int x :: .int j :: .ref a :: st) := by
  subst hp
  obtain ⟨cl, Ar, r, q⟩ := id A
  obtain ⟨g1, -⟩ := Av.place r hj (List.getElem?_eq_getElem hi)
  refine WP.stepT (P := fun h' => Keep h h' [a] ∧ Av Z h' a .int (vs.set i (.int x))) ?_ (fun h' q => H h' q.1 q.2)
  intro p e s m args below meth c T L C X hT N hn'
  obtain ⟨T1, h1, X1, e1, W1, stp⟩ := stI X C.1 C.2.1 hT Ar g1 (g := mkF m pc ls (.int x :: .int j :: .ref a :: st)) rfl rfl (hb C.2.2.2.1 hd)
  exact ⟨T1, h1, _, X1, e1, Fr.snoc X1 N ha, by rw [W1.size]; exact hn', ⟨Keep.of_wr W1, A.set W1 (own_idx hj).1⟩, stp⟩
theorem WP.lastore {j : Int32} {x : Int64} (i : Nat) (hd : decode B.bytes pc = .ok (.lastore, 1)) (A : Av Z h a .long vs) (hj : j.toInt = (i : Int)) (hi : i < vs.length) (ha : n0 ≤ a) (hp : pc + 1 = pc') (H : ∀ h', Keep h h' [a] → Av Z h' a .long (vs.set i (.long x)) → WP l B Z n0 Q h' cs sl pc' ls st) : WP l B Z n0 Q h cs sl pc ls (.long x :: .int j :: .ref a :: st) := by
  subst hp
  obtain ⟨cl, Ar, r, q⟩ := id A
  obtain ⟨g1, -⟩ := Av.place r hj (List.getElem?_eq_getElem hi)
  refine WP.stepT (P := fun h' => Keep h h' [a] ∧ Av Z h' a .long (vs.set i (.long x))) ?_ (fun h' q => H h' q.1 q.2)
  intro p e s m args below meth c T L C X hT N hn'
  obtain ⟨T1, h1, X1, e1, W1, stp⟩ := stJ X C.1 C.2.1 hT Ar g1 (g := mkF m pc ls (.long x :: .int j :: .ref a :: st)) rfl rfl (hb C.2.2.2.1 hd)
  exact ⟨T1, h1, _, X1, e1, Fr.snoc X1 N ha, by rw [W1.size]; exact hn', ⟨Keep.of_wr W1, A.set W1 (own_idx hj).1⟩, stp⟩
theorem WP.castore {j : Int32} {x : Int32} (i : Nat) (hd : decode B.bytes pc = .ok (.castore, 1)) (A : Av Z h a .char vs) (hj : j.toInt = (i : Int)) (hi : i < vs.length) (ha : n0 ≤ a) (hp : pc + 1 = pc') (H : ∀ h', Keep h h' [a] → Av Z h' a .char (vs.set i (.int (nar .char x))) → WP l B Z n0 Q h' cs sl pc' ls st) : WP l B Z n0 Q h cs sl pc ls (.int x :: .int j :: .ref a :: st) := by
  subst hp
  obtain ⟨cl, Ar, r, q⟩ := id A
  obtain ⟨g1, -⟩ := Av.place r hj (List.getElem?_eq_getElem hi)
  refine WP.stepT (P := fun h' => Keep h h' [a] ∧ Av Z h' a .char (vs.set i (.int (nar .char x)))) ?_ (fun h' q => H h' q.1 q.2)
  intro p e s m args below meth c T L C X hT N hn'
  obtain ⟨T1, h1, X1, e1, W1, stp⟩ := stC X C.1 C.2.1 hT Ar g1 (g := mkF m pc ls (.int x :: .int j :: .ref a :: st)) rfl rfl (hb C.2.2.2.1 hd)
  exact ⟨T1, h1, _, X1, e1, Fr.snoc X1 N ha, by rw [W1.size]; exact hn', ⟨Keep.of_wr W1, A.set W1 (own_idx hj).1⟩, stp⟩
theorem WP.bastoreB {j : Int32} {x : Int32} (i : Nat) (hd : decode B.bytes pc = .ok (.bastore, 1)) (A : Av Z h a .byte vs) (hj : j.toInt = (i : Int)) (hi : i < vs.length) (ha : n0 ≤ a) (hp : pc + 1 = pc') (H : ∀ h', Keep h h' [a] → Av Z h' a .byte (vs.set i (.int (nar .byte x))) → WP l B Z n0 Q h' cs sl pc' ls st) : WP l B Z n0 Q h cs sl pc ls (.int x :: .int j :: .ref a :: st) := by
  subst hp
  obtain ⟨cl, Ar, r, q⟩ := id A
  obtain ⟨g1, -⟩ := Av.place r hj (List.getElem?_eq_getElem hi)
  refine WP.stepT (P := fun h' => Keep h h' [a] ∧ Av Z h' a .byte (vs.set i (.int (nar .byte x)))) ?_ (fun h' q => H h' q.1 q.2)
  intro p e s m args below meth c T L C X hT N hn'
  obtain ⟨T1, h1, X1, e1, W1, stp⟩ := stB X C.1 C.2.1 hT Ar g1 (g := mkF m pc ls (.int x :: .int j :: .ref a :: st)) rfl rfl (hb C.2.2.2.1 hd)
  exact ⟨T1, h1, _, X1, e1, Fr.snoc X1 N ha, by rw [W1.size]; exact hn', ⟨Keep.of_wr W1, A.set W1 (own_idx hj).1⟩, stp⟩
theorem WP.bastoreZ {j : Int32} {x : Int32} (i : Nat) (hd : decode B.bytes pc = .ok (.bastore, 1)) (A : Av Z h a .boolean vs) (hj : j.toInt = (i : Int)) (hi : i < vs.length) (ha : n0 ≤ a) (hp : pc + 1 = pc') (H : ∀ h', Keep h h' [a] → Av Z h' a .boolean (vs.set i (.int (nar .boolean x))) → WP l B Z n0 Q h' cs sl pc' ls st) : WP l B Z n0 Q h cs sl pc ls (.int x :: .int j :: .ref a :: st) := by
  subst hp
  obtain ⟨cl, Ar, r, q⟩ := id A
  obtain ⟨g1, -⟩ := Av.place r hj (List.getElem?_eq_getElem hi)
  refine WP.stepT (P := fun h' => Keep h h' [a] ∧ Av Z h' a .boolean (vs.set i (.int (nar .boolean x)))) ?_ (fun h' q => H h' q.1 q.2)
  intro p e s m args below meth c T L C X hT N hn'
  obtain ⟨T1, h1, X1, e1, W1, stp⟩ := stZ X C.1 C.2.1 hT Ar g1 (g := mkF m pc ls (.int x :: .int j :: .ref a :: st)) rfl rfl (hb C.2.2.2.1 hd)
  exact ⟨T1, h1, _, X1, e1, Fr.snoc X1 N ha, by rw [W1.size]; exact hn', ⟨Keep.of_wr W1, A.set W1 (own_idx hj).1⟩, stp⟩
/-! objects: the fields that the sheet lays, in one list -/
abbrev OLay : Type := List (String × String × String)
def Ob (Z : State) (h : Heap) (a : Addr) (C : String) (lay : OLay) (vs : List Value) : Prop := Exa Z h a C ∧ lay.length = vs.length ∧ ∀ (i : Nat) (O n d : String) (v : Value), lay[i]? = some (O, n, d) → vs[i]? = some v → Fld Z h a O n d v
def OLaids (Z : State) (a0 : Array Value) (C : String) (lay : OLay) : Prop := ∀ q ∈ lay, Laid Z a0 C q.1 q.2.1 q.2.2 ∧ ∃ t, parseFieldDescriptor q.2.2 = some t
variable {Cl O n d : String} {lay : OLay} {v : Value}
theorem Ob.lt (A : Ob Z h a Cl lay vs) : a < h.size := A.1.lt
theorem Ob.keep (A : Ob Z h a Cl lay vs) (K : Keep h h' ws) (q : a ∉ ws) : Ob Z h' a Cl lay vs := ⟨A.1.keep K, A.2.1, fun i O n d v h1 h2 => (A.2.2 i O n d v h1 h2).keep K q⟩
theorem Ob.fld (A : Ob Z h a Cl lay vs) (i : Nat) (h1 : lay[i]? = some (O, n, d)) (h2 : vs[i]? = some v) : Fld Z h a O n d v := A.2.2 i O n d v h1 h2
theorem Ob.put {i : Nat} (A : Ob Z h a Cl lay vs) (La : OLaids Z a0 Cl lay) (hnd : (lay.map fun q => q.2.1).Nodup) (h1 : lay[i]? = some (O, n, d)) (W : Wr h h' a (Jvm.RoadKit.slotOf Z O n d) v) : Ob Z h' a Cl lay (vs.set i v) := by
  refine ⟨A.1.wr W, by simpa using A.2.1, fun j O' n' d' v' g1 g2 => ?_⟩
  by_cases e : i = j
  · subst e
    cases h1.symm.trans g1
    have hi : i < vs.length := by rw [← A.2.1]; exact (List.getElem?_eq_some_iff.mp h1).1
    rw [List.getElem?_set_self hi] at g2
    cases g2
    exact (A.fld i h1 (List.getElem?_eq_getElem hi)).same W
  · rw [List.getElem?_set_ne e] at g2
    refine (A.fld j g1 g2).other W (Or.inr ?_)
    obtain ⟨l1, t1, p1⟩ := La _ (List.mem_of_getElem? g1)
    obtain ⟨l2, t2, p2⟩ := La _ (List.mem_of_getElem? h1)
    refine slot_ne l1 l2 (fun q => ?_) p1 p2
    have k1 : (lay.map fun q => q.2.1)[j]? = some n' := by simp [g1]
    have k2 : (lay.map fun q => q.2.1)[i]? = some n := by simp [h1]
    obtain ⟨m1, f1⟩ := List.getElem?_eq_some_iff.mp k1
    obtain ⟨m2, f2⟩ := List.getElem?_eq_some_iff.mp k2
    have pw := List.pairwise_iff_getElem.mp hnd
    rcases Nat.lt_or_gt_of_ne e with c | c
    · exact pw i j m2 m1 c (f2.trans ((show n = n' from q.symm).trans f1.symm))
    · exact pw j i m1 m2 c (f1.trans ((show n' = n from q).trans f2.symm))
theorem WP.getf {idx i : Nat} (hd : decode B.bytes pc = .ok (.getfield idx, 3)) (w : (Cond.fieldLink B.own idx O n d).before a0 Z = true) (A : Ob Z h a Cl lay vs) (h1 : lay[i]? = some (O, n, d)) (h2 : vs[i]? = some v) (hp : pc + 3 = pc') (H : WP l B Z n0 Q h cs sl pc' ls (v :: st)) : WP l B Z n0 Q h cs sl pc ls (.ref a :: st) := by
  subst hp
  intro p e s m args below meth c T L C X hT N hn
  obtain ⟨T1, X1, e1, stp⟩ := getF X C.1 C.2.1 C.2.2.1 (host := "") (Or.inl w) Via.refl hT (A.fld i h1 h2) (g := mkF m pc ls (.ref a :: st)) rfl rfl (hb C.2.2.2.1 hd)
  obtain ⟨U, v', L', a1, rr⟩ := H p e s m args below meth c T1 _ C X1 e1 N hn
  exact ⟨U, v', L', stp _ a1, rr⟩
theorem WP.putf {idx i kk : Nat} {t : FieldType} (hd : decode B.bytes pc = .ok (.putfield idx, 3)) (w : (Cond.fieldLink B.own idx O n d).before a0 Z = true) (A : Ob Z h a Cl lay vs) (La : OLaids Z a0 Cl lay) (hnd : (lay.map fun q => q.2.1).Nodup) (h1 : lay[i]? = some (O, n, d))
    (hL : (Cond.lays Cl O n d).before a0 Z = true ∨ ((Cond.laysFinal Cl O n d).before a0 Z = true ∧ B.own = O ∧ B.mname = "<init>")) (wi : (Cond.instantiable Cl kk).before a0 Z = true) (ht : parseFieldDescriptor d = some t) (hnw : narrow t v = v) (hf : fits t v = true) (ha : n0 ≤ a) (hp : pc + 3 = pc')
    (H : ∀ h', Keep h h' [a] → Ob Z h' a Cl lay (vs.set i v) → WP l B Z n0 Q h' cs sl pc' ls st) : WP l B Z n0 Q h cs sl pc ls (v :: .ref a :: st) := by
  subst hp
  have hi : i < vs.length := by rw [← A.2.1]; exact (List.getElem?_eq_some_iff.mp h1).1
  refine WP.stepT (P := fun h' => Keep h h' [a] ∧ Ob Z h' a Cl lay (vs.set i v)) ?_ (fun h' q => H h' q.1 q.2)
  intro p e s m args below meth c T L C X hT N hn'
  obtain ⟨T1, h2, X1, e1, W1, stp⟩ := putF X C.1 C.2.1 C.2.2.1 (host := "") (Or.inl w) Via.refl hT (A.fld i h1 (List.getElem?_eq_getElem hi)) A.1 (hL.imp id fun q => ⟨q.1, q.2.1, C.2.2.2.2.2.2.2.trans q.2.2⟩) wi ht hnw hf (g := mkF m pc ls (v :: .ref a :: st)) rfl rfl (hb C.2.2.2.1 hd)
  exact ⟨T1, h2, _, X1, e1, Fr.snoc X1 N ha, by rw [W1.size]; exact hn', ⟨Keep.of_wr W1, A.put La hnd h1 W1⟩, stp⟩
theorem WP.newobj {idx k : Nat} (hd : decode B.bytes pc = .ok (.new idx, 3)) (w : (Cond.classLink B.own idx Cl).before a0 Z = true) (wi : (Cond.instantiable Cl k).before a0 Z = true) (wz : (Cond.initialized Cl).before a0 Z = true) (La : OLaids Z a0 Cl lay) (hvs : lay.map (fun q => (parseFieldDescriptor q.2.2).map defaultValue) = vs.map some) (hc : cs + 1 ≤ B.room.cells) (hs : sl + k ≤ B.room.slots) (hp : pc + 3 = pc')
    (H : ∀ b h', b = h.size → n0 ≤ b → Keep h h' [] → Ob Z h' b Cl lay vs → WP l B Z n0 Q h' (cs + 1) (sl + k) pc' ls (.ref b :: st)) : WP l B Z n0 Q h cs sl pc ls st := by
  subst hp
  refine WP.stepT (P := fun h' => Keep h h' [] ∧ n0 ≤ h.size ∧ Ob Z h' h.size Cl lay vs) ?_ (fun h' q => H h.size h' rfl q.2.1 q.1 q.2.2)
  intro p e s m args below meth c T L C X hT N hn'
  obtain ⟨T1, h1, X1, e1, E1, A1, D1, -, stp⟩ := newO X C.1 C.2.1 C.2.2.1 w wi wz hT (g := mkF m pc ls st) rfl (hb C.2.2.2.1 hd) hc hs
  refine ⟨T1, h1, L, X1, e1, N, Nat.le_trans hn' E1.1, ⟨Keep.of_ext E1, hn', A1, by simpa using congrArg List.length hvs, fun i O n d v g1 g2 => ?_⟩, stp⟩
  obtain ⟨l1, t1, p1⟩ := La _ (List.mem_of_getElem? g1)
  have k1 := congrArg (fun z => z[i]?) hvs
  simp only [List.getElem?_map, g1, g2, Option.map_some] at k1
  rw [show parseFieldDescriptor d = some t1 from p1] at k1
  simp only [Option.map_some, Option.some.injEq] at k1
  rw [← k1]
  exact D1 l1 p1
end W
end Jvm.OwnWP
namespace Jvm.OwnWP
open Sem ClassFile Op Lib Jvm.RoadKit
theorem own_r32 (x : Int32) : -2147483648 ≤ x.toInt ∧ x.toInt < 2147483648 := ⟨x.le_toInt, x.toInt_lt⟩
theorem own_r64 (x : Int64) : -9223372036854775808 ≤ x.toInt ∧ x.toInt < 9223372036854775808 := ⟨x.le_toInt, x.toInt_lt⟩
theorem own_iadd {x y : Int32} (h1 : -2147483648 ≤ x.toInt + y.toInt) (h2 : x.toInt + y.toInt < 2147483648) : (x + y).toInt = x.toInt + y.toInt := by have := c_iadd x y; have := own_r32 (x + y); omega
theorem own_isub {x y : Int32} (h1 : -2147483648 ≤ x.toInt - y.toInt) (h2 : x.toInt - y.toInt < 2147483648) : (x - y).toInt = x.toInt - y.toInt := by have := c_isub x y; have := own_r32 (x - y); omega
theorem own_ladd {x y : Int64} (h1 : -9223372036854775808 ≤ x.toInt + y.toInt) (h2 : x.toInt + y.toInt < 9223372036854775808) : (x + y).toInt = x.toInt + y.toInt := by have := c_ladd x y; have := own_r64 (x + y); omega
theorem own_lsub {x y : Int64} (h1 : -9223372036854775808 ≤ x.toInt - y.toInt) (h2 : x.toInt - y.toInt < 9223372036854775808) : (x - y).toInt = x.toInt - y.toInt := by have := c_lsub x y; have := own_r64 (x - y); omega
theorem own_mask (x m : Int32) (k : Nat) (P : Int) (hk : k ≤ 31) (hm : m.toBitVec.toNat = 2 ^ k - 1) (hP : ((2 ^ k : Nat) : Int) = P) : (x &&& m).toInt = x.toInt % P := by rw [← hP]; exact c_mask x m k hk hm
theorem own_maskL (x m : Int64) (k : Nat) (P : Int) (hk : k ≤ 63) (hm : m.toBitVec.toNat = 2 ^ k - 1) (hP : ((2 ^ k : Nat) : Int) = P) : (x &&& m).toInt = x.toInt % P := by rw [← hP]; exact c_maskL x m k hk hm
theorem own_irem {x y : Int32} {d : Int} (hy : y.toInt = d) (h0 : 0 ≤ x.toInt) : (x % y).toInt = x.toInt % d := (c_irem x y d hy).1 h0
theorem own_ushr (x q : Int32) (k : Nat) (P : Int) (hk : q.toBitVec.toNat % 32 = k) (h0 : 0 < k) (hP : ((2 ^ k : Nat) : Int) = P) : (ushr x q).toInt = (x.toInt % 4294967296) / P := by rw [← hP]; exact c_iushr x q k hk h0
theorem own_ishr (x q : Int32) (k : Nat) (P : Int) (hk : q.toBitVec.toNat % 32 = k) (hP : ((2 ^ k : Nat) : Int) = P) : (x >>> (q &&& 31)).toInt = x.toInt / P := by rw [← hP]; exact c_ishr x q k hk
theorem own_nar1 : nar .boolean 1 = 1 := by decide
theorem own_nar0 : nar .boolean 0 = 0 := by decide
theorem own_q1 : (some (Value.int (nar .boolean 1))) = some (Value.int 1) := congrArg (fun z => some (Value.int z)) own_nar1
theorem own_q0 : (some (Value.int (nar .boolean 0))) = some (Value.int 0) := congrArg (fun z => some (Value.int z)) own_nar0
theorem own_e32 {x y : Int32} (h : x.toInt = y.toInt) : x = y := Int32.toInt_inj.mp h
theorem own_e64 {x y : Int64} (h : x.toInt = y.toInt) : x = y := Int64.toInt_inj.mp h
end Jvm.OwnWP
namespace Jvm.OwnWP
theorem own_getI (xs : List Int32) (i : Nat) (h : i < xs.length) : ∃ y, (xs.map Value.int)[i]? = some (Value.int y) := ⟨xs[i], by simp [h]⟩
theorem own_getJ (xs : List Int64) (i : Nat) (h : i < xs.length) : ∃ y, (xs.map Value.long)[i]? = some (Value.long y) := ⟨xs[i], by simp [h]⟩
end Jvm.OwnWP
namespace Jvm.OwnWP
theorem own_nil {a : Addr} : a ∉ ([] : List Addr) := nofun
theorem own_cons {a b : Addr} {ws : List Addr} (h : a ≠ b) (h' : a ∉ ws) : a ∉ b :: ws := fun q => (List.mem_cons.mp q).elim h h'
end Jvm.OwnWP
namespace Jvm.OwnWP
theorem own_all0 {P : Addr → Prop} : ∀ x ∈ ([] : List Addr), P x := fun _ q => nomatch q
theorem own_all {P : Addr → Prop} {a : Addr} {ws : List Addr} (h : P a) (h' : ∀ x ∈ ws, P x) : ∀ x ∈ a :: ws, P x := fun x q => (List.mem_cons.mp q).elim (fun e => e ▸ h) (h' x)
end Jvm.OwnWP
namespace Jvm.OwnWP
open Sem ClassFile Op Lib Jvm.Stand Jvm.Free Jvm.LawKit Jvm.RoadKit
def own_fill : List Value → List Slot
  | [] => []
  | v :: r => if v.category = 2 then .val v :: .second :: own_fill r else .val v :: own_fill r
def own_push (acc : Array Slot) (v : Value) : Array Slot := if v.category = 2 then (acc.push (Slot.val v)).push Slot.second else acc.push (Slot.val v)
theorem own_fold (as : List Value) (acc : Array Slot) : as.foldl own_push acc = acc ++ (own_fill as).toArray := by
  induction as generalizing acc with
  | nil => simp [own_fill]
  | cons v r ih =>
    simp only [List.foldl_cons, own_fill]
    rw [ih]
    unfold own_push
    split <;> simp
theorem own_entry {m : MethodId} {as : List Value} {n : Nat} {fs : List Slot} (k : Nat) (h1 : own_fill as = fs) (h2 : fs.length + k = n) : entryFrame m as.toArray n = mkF m 0 (fs ++ List.replicate k Slot.unset).toArray [] := by
  subst h1 h2
  have e0 : as.toArray.foldl own_push #[] = (own_fill as).toArray := by
    simp only [List.size_toArray, List.foldl_toArray']
    rw [own_fold]; simp
  have e : argsToLocals as.toArray ((own_fill as).length + k) = (own_fill as ++ List.replicate k Slot.unset).toArray := by
    show as.toArray.foldl own_push #[] ++ Array.replicate ((own_fill as).length + k - (as.toArray.foldl own_push #[]).size) Slot.unset = _
    rw [e0]
    simp
  show ({ method := m, pc := 0, locals := argsToLocals as.toArray ((own_fill as).length + k), stack := [], locked := none } : JFrame) = _
  rw [e]
end Jvm.OwnWP
namespace Jvm.OwnWP
theorem own_nz {y : Int32} (h : y.toInt ≠ 0) : y ≠ 0 := fun q => h (by rw [q]; rfl)
theorem own_nzL {y : Int64} (h : y.toInt ≠ 0) : y ≠ 0 := fun q => h (by rw [q]; rfl)
end Jvm.OwnWP
namespace Jvm.OwnWP
open Sem ClassFile Op Lib Jvm.Stand Jvm.Free Jvm.LawKit Jvm.RoadKit
section W
variable {l : Launch} {B : Bod} {Z : State} {n0 : Nat} {Q : Option Value → Heap → Prop} {h : Heap} {cs sl pc pc' : Nat} {ls ls' : Array Slot} {st rest : List Value} {a0 : Array Value}
/-- a private method by invokevirtual; that its class is no interface is read off another 'selects' word of that class -/
theorem WP.callP {y y0 : MethodName} {By : Bod} {Cl : String} {as : List Value} {a : Addr} {idx : Nat} {Qy : Option Value → Heap → Prop} {ps : List FieldType} {r : Option FieldType}
    (hd : decode B.bytes pc = .ok (.invokevirtual idx, 3)) (w1 : (Cond.methodLink B.own idx y).before a0 Z = true) (w2 : (Cond.instanceMethod y).before a0 Z = true) (w5 : (Cond.privateMethod y).before a0 Z = true) (w6 : (Cond.selects Cl y0 y0).before a0 Z = true) (w3 : (Cond.initialized y.cls).before a0 Z = true) (w4 : (Cond.code y By.bytes By.maxL By.ret).before a0 Z = true) (hcl : y0.cls = y.cls)
    (hy : y.cls ≠ "java/lang/invoke/MethodHandle" ∧ y.cls ≠ "java/lang/invoke/VarHandle") {Ce : String} (E : Exa Z h a Ce) (hM : OMet l y By Z n0 (.ref a :: as).toArray h Qy) (hpd : parseMethodDescriptor y.desc = some ⟨ps, r⟩) (hlen : as.length = ps.length) (hst : st = as.reverse ++ .ref a :: rest) (hls : ls.size = B.maxL)
    (hfr : By.room.frames + 1 ≤ B.room.frames) (hlo : (rest.map fun v => v.category).sum + (By.maxL + 11) + By.room.locals ≤ B.room.locals) (hc : cs + By.room.cells ≤ B.room.cells) (hs : sl + By.room.slots ≤ B.room.slots) (hp : pc + 3 = pc')
    (H : ∀ v h', Qy v h' → WP l B Z n0 Q h' (cs + By.room.cells) (sl + By.room.slots) pc' ls (v.toList ++ rest)) : WP l B Z n0 Q h cs sl pc ls st := by
  subst hp
  intro p e s m args below meth c T L C X hT N hn
  obtain ⟨hx, hZ, hown, hby, hml, hret, hlk, hnm⟩ := C
  obtain ⟨cq, q1, q2⟩ := E.cell
  have hpr : s.PrivateAt y := Cond.privateMethod_at (mvP hZ w5 (args := #[]))
  have hsel : (Cond.selects y.cls y y).before args s = true := by
    obtain ⟨c2, r2, m2, -, -, q3, -, kP, hkP, hkPi⟩ := Cond.selects_spec (mvT (args := args) hZ w6)
    have hc2 := findClass_of_methodNamed q3
    rw [hcl] at hc2
    exact selects_self_of_private hc2 hkP hkPi hpr (mvT hZ w2) hy
  obtain ⟨v, _, ⟨T1, L1, k1, n1⟩, -, X1, ⟨Lc, hQ, l1, y1, z1⟩, stp⟩ := X.privateBack hx (y := y) hown (mvT hZ w1) (mvT hZ w2) hsel hpr (mvT hZ w4) hy (backOf (W := (rest.map fun v => v.category).sum) (Q := fun v h' L => Qy v h' ∧ Fr n0 L ∧ n0 ≤ h'.size) (hM hn []) hZ w4 w3 hfr hlo) (g := mkF m pc ls st) rfl (by rw [hml]; exact hls) (Steps.refl _) (a := a) (cell := cq) (by rw [hT]; exact q1) q2 (argsL := as) (rest := rest) (lenOf hpd hlen) hst (by show 2 * 0 + _ ≤ _; omega) (hb hby hd) (fun _ _ => ⟨rfl, hT, hc, hs⟩)
  dsimp only [Pt.U, Pt.locs, Pt.cells, Pt.slots] at X1 l1 y1 z1 stp hQ
  subst l1 y1 z1
  obtain ⟨U, v', L', a1, rr⟩ := H v T1.heap hQ.1 p e s m args below meth c T1 _ ⟨hx, hZ, hown, hby, hml, hret, hlk, hnm⟩ X1 rfl (N.app hQ.2.1) hQ.2.2
  exact ⟨U, v', L', stp.trans a1, rr⟩
end W
end Jvm.OwnWP
namespace Jvm.OwnWP
open Sem ClassFile Op Lib Jvm.Stand Jvm.Free Jvm.LawKit Jvm.RoadKit
section W
variable {l : Launch} {B : Bod} {Z : State} {n0 : Nat} {Q : Option Value → Heap → Prop} {h : Heap} {cs sl pc pc' : Nat} {ls ls' : Array Slot} {st rest : List Value} {a0 : Array Value} {a b : Addr} {ty : FieldType} {vs us : List Value}
/-- System.arraycopy of a primitive array's stretch -/
theorem WP.acopy {idx : Nat} {x y n : Int32} (i j k : Nat) (hd : decode B.bytes pc = .ok (.invokestatic idx, 3)) (w1 : (Cond.methodLink B.own idx acN).before a0 Z = true) (w2 : (Cond.native acN).before a0 Z = true) (w3 : (Cond.static acN).before a0 Z = true) (w4 : (Cond.initialized "java/lang/System").before a0 Z = true)
    (A : Av Z h a ty vs) (D : Av Z h b ty us) (hty : ty.isReference = false) (hx : x.toInt = (i : Int)) (hy : y.toInt = (j : Int)) (hn : n.toInt = (k : Int)) (h1 : i + k ≤ vs.length) (h2 : j + k ≤ us.length) (hfit : ∀ (q : Nat) (v : Value), vs[q]? = some v → fits ty v = true) (hbb : n0 ≤ b) (hls : ls.size = B.maxL) (hf : 1 ≤ B.room.frames)
    (hlo : (rest.map fun v => v.category).sum + (nativeFrameWords "java/lang/System" "arraycopy" 5 + 11) ≤ B.room.locals) (hp : pc + 3 = pc')
    (H : ∀ h' us', Keep h h' [b] → Av Z h' b ty us' → us'.length = us.length → (∀ q, us'[q]? = if j ≤ q ∧ q < j + k then vs[i + (q - j)]? else us[q]?) → WP l B Z n0 Q h' cs sl pc' ls rest) : WP l B Z n0 Q h cs sl pc ls (.int n :: .int y :: .ref b :: .int x :: .ref a :: rest) := by
  subst hp
  obtain ⟨ca, Aa, ra, qa⟩ := A
  obtain ⟨cb, Ab, rb, qb⟩ := id D
  obtain ⟨x1, x2⟩ := own_idx hx
  obtain ⟨y1, y2⟩ := own_idx hy
  obtain ⟨n1, n2⟩ := own_idx hn
  have sa : ca.slots.size = vs.length := by rw [← ra]; simp
  have sb : cb.slots.size = us.length := by rw [← rb]; simp
  have hrk : refKind ty = false := by cases ty <;> first | rfl | (simp [FieldType.isReference] at hty)
  have hget : ∀ q, q < k → ∃ v, vs[i + q]? = some v ∧ ca.slots.getD (i + q) .null = v := fun q hq => by
    have hlt : i + q < vs.length := by omega
    refine ⟨vs[i + q], List.getElem?_eq_getElem hlt, ?_⟩
    subst ra
    have hlt' : i + q < ca.slots.size := by simpa using hlt
    simp [Array.getD, hlt']
  have hstr : ca.stretch i k = (vs.drop i).take k := by
    apply List.ext_getElem?
    intro q
    simp only [Cell.stretch, List.getElem?_map, List.getElem?_take, List.getElem?_drop]
    by_cases hq : q < k
    · obtain ⟨v, e1, e2⟩ := hget q hq
      rw [if_pos hq, e1]
      simp only [List.getElem?_range hq, Option.map_some]
      rw [e2]
    · rw [if_neg hq]
      simp [Nat.not_lt.mp hq]
  have hlen : (ca.stretch i k).length = k := by simp [Cell.stretch]
  refine WP.stepT (cs' := cs) (sl' := sl) (P := fun h' => Keep h h' [b] ∧ ∃ us', Av Z h' b ty us' ∧ us'.length = us.length ∧ ∀ q, us'[q]? = if j ≤ q ∧ q < j + k then vs[i + (q - j)]? else us[q]?) ?_ (fun h' q => by obtain ⟨q1, us', q2, q3, q4⟩ := q; exact H h' us' q1 q2 q3 q4)
  intro p e s m args below meth c T L C X hT N hn'
  obtain ⟨-, ka, ca1, compa, ka2⟩ := State.isArrayOf_alike C.2.1.alike Aa.2.1
  obtain ⟨-, kb, cb1, compb, kb2⟩ := State.isArrayOf_alike C.2.1.alike Ab.2.1
  have nsa : ∀ q, ca.vm ≠ .statics q := fun q e => by have := Arr.plain Aa; rw [e] at this; cases this
  have nsb : ∀ q, cb.vm ≠ .statics q := fun q e => by have := Arr.plain Ab; rw [e] at this; cases this
  obtain ⟨vm1, -, X1, stp⟩ := X.arraycopyK C.1 C.2.2.1 (mvT C.2.1 w1) (mvT C.2.1 w2) (mvT C.2.1 w3) (mvT C.2.1 w4) (src := a) (dst := b) (srcPos := x) (destPos := y) (n := n) (cs := ca) (cd := cb) (by rw [hT]; exact Aa.1) (by rw [hT]; exact Ab.1) nsa nsb Aa.2.2 Ab.2.2 ca1 cb1 ka2 kb2 (by simp [hrk]) x2 y2 n2 (by rw [sa]; omega) (by rw [sb]; omega)
    (fun vm1 _ q hq => by
      rw [n1] at hq
      obtain ⟨v, e1, e2⟩ := hget q hq
      rw [x1, e2]
      have hf := hfit _ _ e1
      refine ⟨hf, ?_⟩
      cases v with
      | ref z => cases ty <;> first | (simp [fits] at hf; done) | (simp [FieldType.isReference] at hty; done)
      | _ => trivial)
    (g := mkF m pc ls (.int n :: .int y :: .ref b :: .int x :: .ref a :: rest)) rfl (by rw [C.2.2.2.2.1]; exact hls) rfl (hb C.2.2.2.1 hd) hf (by show 2 * 0 + _ + _ ≤ _; omega)
  have hlt : b < h.size := D.lt
  have eh : ((T.setVm vm1).setCell b (copied ca cb x y n)).heap = h.setIfInBounds b (copied ca cb x y n) := by rw [← hT]; rfl
  have fc := cb.storeRun_facts y.toNatClampNeg (ca.stretch x.toNatClampNeg n.toNatClampNeg)
  refine ⟨_, _, _, X1, eh, N.app (fun z hz => by rw [copyLocs_base hz]; exact hbb), by simpa using hn', ⟨⟨by simp, fun z cz hz hzn => ?_, fun z cz hz => ?_⟩, (copied ca cb x y n).slots.toList, ⟨_, ⟨by simp [hlt], ?_, ?_⟩, rfl, ?_⟩, ?_, fun q => ?_⟩, stp⟩
  · rw [Array.getElem?_setIfInBounds_ne (fun e => hzn (by simp [e]))]; exact hz
  · by_cases e : b = z
    · subst e
      cases Ab.1.symm.trans hz
      exact ⟨_, by simp [hlt], fc.1, fc.2.1, fc.2.2.1⟩
    · exact ⟨cz, by rw [Array.getElem?_setIfInBounds_ne e]; exact hz, rfl, rfl, rfl⟩
  · obtain ⟨q1, k, q2, q3⟩ := Ab.2.1
    exact ⟨by rw [show (copied ca cb x y n).vm = cb.vm from fc.2.1]; exact q1, k, by rw [show (copied ca cb x y n).cls = cb.cls from fc.1]; exact q2, q3⟩
  · rw [show (copied ca cb x y n).vm = cb.vm from fc.2.1]; exact Ab.2.2
  · have : (copied ca cb x y n).slots.size = cb.slots.size := fc.2.2.1
    simp only [Array.length_toList]; rw [this, sb]; exact qb
  · have : (copied ca cb x y n).slots.size = cb.slots.size := fc.2.2.1
    simp only [Array.length_toList]; rw [this, sb]
  · have g := Cell.storeRun_get cb j (ca.stretch i k) q (by rw [hlen, sb]; exact h2)
    rw [hlen] at g
    have e0 : (copied ca cb x y n) = cb.storeRun j (ca.stretch i k) := by show cb.storeRun y.toNatClampNeg (ca.stretch x.toNatClampNeg n.toNatClampNeg) = _; rw [x1, y1, n1]
    rw [e0, Array.getElem?_toList, g, hstr]
    by_cases hq : j ≤ q ∧ q < j + k
    · rw [if_pos hq, if_pos hq]
      simp only [List.getElem?_take, List.getElem?_drop]
      rw [if_pos (by omega)]
    · rw [if_neg hq, if_neg hq, ← rb]; simp
end W
end Jvm.OwnWP
namespace Jvm.OwnWP
open Sem ClassFile Op Lib Jvm.Stand Jvm.Free Jvm.LawKit Jvm.RoadKit
section W
variable {l : Launch} {B : Bod} {Z : State} {n0 : Nat} {Q : Option Value → Heap → Prop} {h h' : Heap} {cs sl pc pc' : Nat} {ls ls' : Array Slot} {st rest : List Value} {a0 : Array Value} {a b : Addr} {ty : FieldType} {vs us : List Value} {ws : List Addr}
/-- newarray, and of what class the array is -/
theorem WP.newarrE {aty : ArrayType} {n : Int32} {k : Nat} {ad : String} (hd : decode B.bytes pc = .ok (.newarray aty, 2)) (w : (Cond.arrayClass (newarray.typeOf aty)).before a0 Z = true) (hn : n.toInt = (k : Int)) (cap : Nat) (hcap : k ≤ cap) (hbig : cap * 8 ≤ 536870912) (hc : cs + 1 ≤ B.room.cells) (hs : sl + cap ≤ B.room.slots) (had : "[" ++ (newarray.typeOf aty).toString = ad) (hp : pc + 2 = pc')
    (H : ∀ b h', b = h.size → n0 ≤ b → Keep h h' [] → Av Z h' b (newarray.typeOf aty) (List.replicate k (defaultValue (newarray.typeOf aty))) → Exa Z h' b ad → WP l B Z n0 Q h' (cs + 1) (sl + cap) pc' ls (.ref b :: st)) : WP l B Z n0 Q h cs sl pc ls (.int n :: st) := by
  subst hp
  obtain ⟨q1, q2⟩ := own_idx hn
  refine WP.stepT (P := fun h' => Keep h h' [] ∧ n0 ≤ h.size ∧ Av Z h' h.size (newarray.typeOf aty) (List.replicate k (defaultValue (newarray.typeOf aty))) ∧ Exa Z h' h.size ad) ?_ (fun h' q => H h.size h' rfl q.2.1 q.1 q.2.2.1 q.2.2.2)
  intro p e s m args below meth c T L C X hT N hn'
  obtain ⟨T1, h1, cA, X1, e1, E1, A1, EX1, stp⟩ := newPE X C.1 C.2.1 w hT (g := mkF m pc ls (.int n :: st)) rfl (hb C.2.2.2.1 hd) rfl q2 (cap := cap) (by omega) hbig hc hs had
  refine ⟨T1, h1, L, X1, e1, N, Nat.le_trans hn' E1.1, ⟨Keep.of_ext E1, hn', ⟨_, A1, ?_, ?_⟩, EX1⟩, stp⟩
  · simp [newA, q1]
  · simp; omega
/-- an array's clone() -/
theorem WP.aclone {idx : Nat} {ad : String} (hd : decode B.bytes pc = .ok (.invokevirtual idx, 3)) (w1 : (Cond.methodLink B.own idx ⟨ad, "clone", "()Ljava/lang/Object;"⟩).before a0 Z = true) (w2 : (Cond.sameMethod ad "java/lang/Object" "clone" "()Ljava/lang/Object;").before a0 Z = true) (w3 : (Cond.native ⟨"java/lang/Object", "clone", "()Ljava/lang/Object;"⟩).before a0 Z = true)
    (w4 : (Cond.instanceMethod ⟨"java/lang/Object", "clone", "()Ljava/lang/Object;"⟩).before a0 Z = true) (w5 : (Cond.selects ad ⟨ad, "clone", "()Ljava/lang/Object;"⟩ ⟨"java/lang/Object", "clone", "()Ljava/lang/Object;"⟩).before a0 Z = true) (w6 : (Cond.castable ad "java/lang/Cloneable").before a0 Z = true)
    (A : Av Z h a ty vs) (E : Exa Z h a ad) (hfit : ∀ (q : Nat) (v : Value), vs[q]? = some v → fits ty v = true) (hls : ls.size = B.maxL) (hf : 1 ≤ B.room.frames) (hlo : (rest.map fun v => v.category).sum + 14 ≤ B.room.locals) (cap : Nat) (hcap : vs.length ≤ cap) (hc : cs + 1 ≤ B.room.cells) (hs : sl + cap ≤ B.room.slots) (hp : pc + 3 = pc')
    (H : ∀ b h', b = h.size → n0 ≤ b → Keep h h' [] → Av Z h' b ty vs → Exa Z h' b ad → WP l B Z n0 Q h' (cs + 1) (sl + cap) pc' ls (.ref b :: rest)) : WP l B Z n0 Q h cs sl pc ls (.ref a :: rest) := by
  subst hp
  obtain ⟨cl, Ac, r, q⟩ := A
  have sc : cl.slots.size = vs.length := by rw [← r]; simp
  refine WP.stepT (P := fun h' => Keep h h' [] ∧ n0 ≤ h.size ∧ Av Z h' h.size ty vs ∧ Exa Z h' h.size ad) ?_ (fun h' q => H h.size h' rfl q.2.1 q.1 q.2.2.1 q.2.2.2)
  intro p e s m args below meth c T L C X hT N hn'
  obtain ⟨T1, h1, X1, e1, E1, A1, EX1, stp⟩ := cloneA X C.1 C.2.1 C.2.2.1 w1 w2 w3 w4 w5 w6 hT Ac E (fitC_of Ac fun i hi v hv => hfit i v (by rw [← r]; simpa using hv)) (g := mkF m pc ls (.ref a :: rest)) rfl (by rw [C.2.2.2.2.1]; exact hls) rfl (hb C.2.2.2.1 hd) hf (W := (rest.map fun v => v.category).sum) (cap := cap) (by show 2 * 0 + _ ≤ _; omega) hlo (by omega) hc hs
  exact ⟨T1, h1, L, X1, e1, N, Nat.le_trans hn' E1.1, ⟨Keep.of_ext E1, hn', ⟨_, A1, r, q⟩, EX1⟩, stp⟩
/-- checkcast of an object of just that class -/
theorem WP.cast {idx : Nat} {K : String} (hd : decode B.bytes pc = .ok (.checkcast idx, 3)) (w : (Cond.classLink B.own idx K).before a0 Z = true) (E : Ins Z h a K true) (hp : pc + 3 = pc') (H : WP l B Z n0 Q h cs sl pc' ls (.ref a :: st)) : WP l B Z n0 Q h cs sl pc ls (.ref a :: st) := by
  subst hp
  intro p e s m args below meth c T L C X hT N hn
  obtain ⟨T1, X1, e1, stp⟩ := castY X C.1 C.2.1 C.2.2.1 w hT E (g := mkF m pc ls (.ref a :: st)) rfl rfl (hb C.2.2.2.1 hd)
  obtain ⟨U, v', L', a1, rr⟩ := H p e s m args below meth c T1 _ C X1 e1 N hn
  exact ⟨U, v', L', stp _ a1, rr⟩
end W
end Jvm.OwnWP


namespace Jvm.Pilot.@@N@@
open Jvm Jvm.ClassFile Sem Op Lib Jvm.Free Jvm.Stand Jvm.LawKit Jvm.RoadKit Jvm.OwnWP Bundle Jvm.Pilot.@@N@@.Jvm.D

abbrev HW (Z : State) (a0 : Array Value) : Prop := ∀ d ∈ tables_1, d.before a0 Z = true
theorem w0 {Z : State} {a0 : Array Value} (hw : HW Z a0) : ((Jvm.Cond.constant "com/example/singlet/singlet/network/DomainFirstAtLeastPinLaw" (7 : Nat) (134217727 : Int32))).before a0 Z = true := hw _ (List.mem_of_getElem? (i := 0) rfl)
theorem w1 {Z : State} {a0 : Array Value} (hw : HW Z a0) : ((Jvm.Cond.constantLong "com/example/singlet/singlet/network/DomainFirstAtLeastPinLaw" (8 : Nat) (2147483647 : Int64))).before a0 Z = true := hw _ (List.mem_of_getElem? (i := 1) rfl)
theorem w2 {Z : State} {a0 : Array Value} (hw : HW Z a0) : ((Jvm.Cond.arrayClass Jvm.ClassFile.FieldType.int)).before a0 Z = true := hw _ (List.mem_of_getElem? (i := 2) rfl)
theorem w3 {Z : State} {a0 : Array Value} (hw : HW Z a0) : ((Jvm.Cond.methodLink "com/example/singlet/singlet/network/DomainFirstAtLeastPinLaw" (14 : Nat) ({ cls := "com/example/singlet/singlet/network/DomainFirstAtLeastPinLaw", name := "below", desc := "(ZJJ)I" } : Jvm.MethodName))).before a0 Z = true := hw _ (List.mem_of_getElem? (i := 3) rfl)
theorem w4 {Z : State} {a0 : Array Value} (hw : HW Z a0) : ((Jvm.Cond.static ({ cls := "com/example/singlet/singlet/network/DomainFirstAtLeastPinLaw", name := "below", desc := "(ZJJ)I" } : Jvm.MethodName))).before a0 Z = true := hw _ (List.mem_of_getElem? (i := 4) rfl)
theorem w5 {Z : State} {a0 : Array Value} (hw : HW Z a0) : ((Jvm.Cond.initialized "com/example/singlet/singlet/network/DomainFirstAtLeastPinLaw")).before a0 Z = true := hw _ (List.mem_of_getElem? (i := 5) rfl)
theorem w6 {Z : State} {a0 : Array Value} (hw : HW Z a0) : ((Jvm.Cond.code ({ cls := "com/example/singlet/singlet/network/DomainFirstAtLeastPinLaw", name := "below", desc := "(ZJJ)I" } : Jvm.MethodName) method_2_code (5 : Nat) (Option.some Jvm.ClassFile.FieldType.int))).before a0 Z = true := hw _ (List.mem_of_getElem? (i := 6) rfl)
theorem w7 {Z : State} {a0 : Array Value} (hw : HW Z a0) : ((Jvm.Cond.classLink "com/example/singlet/singlet/network/DomainFirstAtLeastPinLaw" (20 : Nat) "com/example/singlet/singlet/network/Domain")).before a0 Z = true := hw _ (List.mem_of_getElem? (i := 7) rfl)
theorem w8 {Z : State} {a0 : Array Value} (hw : HW Z a0) : ((Jvm.Cond.instantiable "com/example/singlet/singlet/network/Domain" (10 : Nat))).before a0 Z = true := hw _ (List.mem_of_getElem? (i := 8) rfl)
theorem w9 {Z : State} {a0 : Array Value} (hw : HW Z a0) : ((Jvm.Cond.initialized "com/example/singlet/singlet/network/Domain")).before a0 Z = true := hw _ (List.mem_of_getElem? (i := 9) rfl)
theorem w10 {Z : State} {a0 : Array Value} (hw : HW Z a0) : ((Jvm.Cond.methodLink "com/example/singlet/singlet/network/DomainFirstAtLeastPinLaw" (22 : Nat) ({ cls := "com/example/singlet/singlet/network/Domain", name := "<init>", desc := "([I)V" } : Jvm.MethodName))).before a0 Z = true := hw _ (List.mem_of_getElem? (i := 10) rfl)
theorem w11 {Z : State} {a0 : Array Value} (hw : HW Z a0) : ((Jvm.Cond.instanceMethod ({ cls := "com/example/singlet/singlet/network/Domain", name := "<init>", desc := "([I)V" } : Jvm.MethodName))).before a0 Z = true := hw _ (List.mem_of_getElem? (i := 11) rfl)
theorem w12 {Z : State} {a0 : Array Value} (hw : HW Z a0) : ((Jvm.Cond.code ({ cls := "com/example/singlet/singlet/network/Domain", name := "<init>", desc := "([I)V" } : Jvm.MethodName) prog_11_method_1_code (2 : Nat) (Option.none : Option Jvm.ClassFile.FieldType))).before a0 Z = true := hw _ (List.mem_of_getElem? (i := 12) rfl)
theorem w13 {Z : State} {a0 : Array Value} (hw : HW Z a0) : ((Jvm.Cond.methodLink "com/example/singlet/singlet/network/Domain" (1 : Nat) ({ cls := "com/example/singlet/singlet/network/Domain", name := "<init>", desc := "([ILcom/example/singlet/singlet/network/Trail;I)V" } : Jvm.MethodName))).before a0 Z = true := hw _ (List.mem_of_getElem? (i := 13) rfl)
theorem w14 {Z : State} {a0 : Array Value} (hw : HW Z a0) : ((Jvm.Cond.instanceMethod ({ cls := "com/example/singlet/singlet/network/Domain", name := "<init>", desc := "([ILcom/example/singlet/singlet/network/Trail;I)V" } : Jvm.MethodName))).before a0 Z = true := hw _ (List.mem_of_getElem? (i := 14) rfl)
theorem w15 {Z : State} {a0 : Array Value} (hw : HW Z a0) : ((Jvm.Cond.code ({ cls := "com/example/singlet/singlet/network/Domain", name := "<init>", desc := "([ILcom/example/singlet/singlet/network/Trail;I)V" } : Jvm.MethodName) prog_11_method_2_code (6 : Nat) (Option.none : Option Jvm.ClassFile.FieldType))).before a0 Z = true := hw _ (List.mem_of_getElem? (i := 15) rfl)
theorem w16 {Z : State} {a0 : Array Value} (hw : HW Z a0) : ((Jvm.Cond.methodLink "com/example/singlet/singlet/network/Domain" (7 : Nat) ({ cls := "java/lang/Object", name := "<init>", desc := "()V" } : Jvm.MethodName))).before a0 Z = true := hw _ (List.mem_of_getElem? (i := 16) rfl)
theorem w17 {Z : State} {a0 : Array Value} (hw : HW Z a0) : ((Jvm.Cond.instanceMethod ({ cls := "java/lang/Object", name := "<init>", desc := "()V" } : Jvm.MethodName))).before a0 Z = true := hw _ (List.mem_of_getElem? (i := 17) rfl)
theorem w18 {Z : State} {a0 : Array Value} (hw : HW Z a0) : ((Jvm.Cond.code ({ cls := "java/lang/Object", name := "<init>", desc := "()V" } : Jvm.MethodName) object_method_1_code (1 : Nat) (Option.none : Option Jvm.ClassFile.FieldType))).before a0 Z = true := hw _ (List.mem_of_getElem? (i := 18) rfl)
theorem w19 {Z : State} {a0 : Array Value} (hw : HW Z a0) : ((Jvm.Cond.methodLink "com/example/singlet/singlet/network/Domain" (21 : Nat) ({ cls := "[I", name := "clone", desc := "()Ljava/lang/Object;" } : Jvm.MethodName))).before a0 Z = true := hw _ (List.mem_of_getElem? (i := 19) rfl)
theorem w20 {Z : State} {a0 : Array Value} (hw : HW Z a0) : ((Jvm.Cond.sameMethod "[I" "java/lang/Object" "clone" "()Ljava/lang/Object;")).before a0 Z = true := hw _ (List.mem_of_getElem? (i := 20) rfl)
theorem w22 {Z : State} {a0 : Array Value} (hw : HW Z a0) : ((Jvm.Cond.instanceMethod ({ cls := "java/lang/Object", name := "clone", desc := "()Ljava/lang/Object;" } : Jvm.MethodName))).before a0 Z = true := hw _ (List.mem_of_getElem? (i := 22) rfl)
theorem w23 {Z : State} {a0 : Array Value} (hw : HW Z a0) : ((Jvm.Cond.selects "[I" ({ cls := "[I", name := "clone", desc := "()Ljava/lang/Object;" } : Jvm.MethodName) ({ cls := "java/lang/Object", name := "clone", desc := "()Ljava/lang/Object;" } : Jvm.MethodName))).before a0 Z = true := hw _ (List.mem_of_getElem? (i := 23) rfl)
theorem w24 {Z : State} {a0 : Array Value} (hw : HW Z a0) : ((Jvm.Cond.native ({ cls := "java/lang/Object", name := "clone", desc := "()Ljava/lang/Object;" } : Jvm.MethodName))).before a0 Z = true := hw _ (List.mem_of_getElem? (i := 24) rfl)
theorem w25 {Z : State} {a0 : Array Value} (hw : HW Z a0) : ((Jvm.Cond.castable "[I" "java/lang/Cloneable")).before a0 Z = true := hw _ (List.mem_of_getElem? (i := 25) rfl)
theorem w26 {Z : State} {a0 : Array Value} (hw : HW Z a0) : ((Jvm.Cond.classLink "com/example/singlet/singlet/network/Domain" (22 : Nat) "[I")).before a0 Z = true := hw _ (List.mem_of_getElem? (i := 26) rfl)
theorem w28 {Z : State} {a0 : Array Value} (hw : HW Z a0) : ((Jvm.Cond.fieldLink "com/example/singlet/singlet/network/Domain" (27 : Nat) "com/example/singlet/singlet/network/Domain" "values" "[I")).before a0 Z = true := hw _ (List.mem_of_getElem? (i := 28) rfl)
theorem w29 {Z : State} {a0 : Array Value} (hw : HW Z a0) : ((Jvm.Cond.laysFinal "com/example/singlet/singlet/network/Domain" "com/example/singlet/singlet/network/Domain" "values" "[I")).before a0 Z = true := hw _ (List.mem_of_getElem? (i := 29) rfl)
theorem w30 {Z : State} {a0 : Array Value} (hw : HW Z a0) : ((Jvm.Cond.arrayClass Jvm.ClassFile.FieldType.boolean)).before a0 Z = true := hw _ (List.mem_of_getElem? (i := 30) rfl)
theorem w31 {Z : State} {a0 : Array Value} (hw : HW Z a0) : ((Jvm.Cond.fieldLink "com/example/singlet/singlet/network/Domain" (30 : Nat) "com/example/singlet/singlet/network/Domain" "present" "[Z")).before a0 Z = true := hw _ (List.mem_of_getElem? (i := 31) rfl)
theorem w32 {Z : State} {a0 : Array Value} (hw : HW Z a0) : ((Jvm.Cond.laysFinal "com/example/singlet/singlet/network/Domain" "com/example/singlet/singlet/network/Domain" "present" "[Z")).before a0 Z = true := hw _ (List.mem_of_getElem? (i := 32) rfl)
theorem w33 {Z : State} {a0 : Array Value} (hw : HW Z a0) : ((Jvm.Cond.fieldLink "com/example/singlet/singlet/network/Domain" (34 : Nat) "com/example/singlet/singlet/network/Domain" "next" "[I")).before a0 Z = true := hw _ (List.mem_of_getElem? (i := 33) rfl)
theorem w34 {Z : State} {a0 : Array Value} (hw : HW Z a0) : ((Jvm.Cond.laysFinal "com/example/singlet/singlet/network/Domain" "com/example/singlet/singlet/network/Domain" "next" "[I")).before a0 Z = true := hw _ (List.mem_of_getElem? (i := 34) rfl)
theorem w35 {Z : State} {a0 : Array Value} (hw : HW Z a0) : ((Jvm.Cond.fieldLink "com/example/singlet/singlet/network/Domain" (37 : Nat) "com/example/singlet/singlet/network/Domain" "previous" "[I")).before a0 Z = true := hw _ (List.mem_of_getElem? (i := 35) rfl)
theorem w36 {Z : State} {a0 : Array Value} (hw : HW Z a0) : ((Jvm.Cond.laysFinal "com/example/singlet/singlet/network/Domain" "com/example/singlet/singlet/network/Domain" "previous" "[I")).before a0 Z = true := hw _ (List.mem_of_getElem? (i := 36) rfl)
theorem w37 {Z : State} {a0 : Array Value} (hw : HW Z a0) : ((Jvm.Cond.fieldLink "com/example/singlet/singlet/network/Domain" (40 : Nat) "com/example/singlet/singlet/network/Domain" "removed" "[I")).before a0 Z = true := hw _ (List.mem_of_getElem? (i := 37) rfl)
theorem w38 {Z : State} {a0 : Array Value} (hw : HW Z a0) : ((Jvm.Cond.laysFinal "com/example/singlet/singlet/network/Domain" "com/example/singlet/singlet/network/Domain" "removed" "[I")).before a0 Z = true := hw _ (List.mem_of_getElem? (i := 38) rfl)
theorem w39 {Z : State} {a0 : Array Value} (hw : HW Z a0) : ((Jvm.Cond.fieldLink "com/example/singlet/singlet/network/Domain" (43 : Nat) "com/example/singlet/singlet/network/Domain" "head" "I")).before a0 Z = true := hw _ (List.mem_of_getElem? (i := 39) rfl)
theorem w40 {Z : State} {a0 : Array Value} (hw : HW Z a0) : ((Jvm.Cond.lays "com/example/singlet/singlet/network/Domain" "com/example/singlet/singlet/network/Domain" "head" "I")).before a0 Z = true := hw _ (List.mem_of_getElem? (i := 40) rfl)
theorem w41 {Z : State} {a0 : Array Value} (hw : HW Z a0) : ((Jvm.Cond.fieldLink "com/example/singlet/singlet/network/Domain" (47 : Nat) "com/example/singlet/singlet/network/Domain" "tail" "I")).before a0 Z = true := hw _ (List.mem_of_getElem? (i := 41) rfl)
theorem w42 {Z : State} {a0 : Array Value} (hw : HW Z a0) : ((Jvm.Cond.lays "com/example/singlet/singlet/network/Domain" "com/example/singlet/singlet/network/Domain" "tail" "I")).before a0 Z = true := hw _ (List.mem_of_getElem? (i := 42) rfl)
theorem w43 {Z : State} {a0 : Array Value} (hw : HW Z a0) : ((Jvm.Cond.fieldLink "com/example/singlet/singlet/network/Domain" (50 : Nat) "com/example/singlet/singlet/network/Domain" "trail" "Lcom/example/singlet/singlet/network/Trail;")).before a0 Z = true := hw _ (List.mem_of_getElem? (i := 43) rfl)
theorem w44 {Z : State} {a0 : Array Value} (hw : HW Z a0) : ((Jvm.Cond.laysFinal "com/example/singlet/singlet/network/Domain" "com/example/singlet/singlet/network/Domain" "trail" "Lcom/example/singlet/singlet/network/Trail;")).before a0 Z = true := hw _ (List.mem_of_getElem? (i := 44) rfl)
theorem w45 {Z : State} {a0 : Array Value} (hw : HW Z a0) : ((Jvm.Cond.fieldLink "com/example/singlet/singlet/network/Domain" (54 : Nat) "com/example/singlet/singlet/network/Domain" "variable" "I")).before a0 Z = true := hw _ (List.mem_of_getElem? (i := 45) rfl)
theorem w46 {Z : State} {a0 : Array Value} (hw : HW Z a0) : ((Jvm.Cond.laysFinal "com/example/singlet/singlet/network/Domain" "com/example/singlet/singlet/network/Domain" "variable" "I")).before a0 Z = true := hw _ (List.mem_of_getElem? (i := 46) rfl)
theorem w47 {Z : State} {a0 : Array Value} (hw : HW Z a0) : ((Jvm.Cond.methodLink "com/example/singlet/singlet/network/DomainFirstAtLeastPinLaw" (25 : Nat) ({ cls := "com/example/singlet/singlet/network/Domain", name := "firstAtLeast", desc := "(J)I" } : Jvm.MethodName))).before a0 Z = true := hw _ (List.mem_of_getElem? (i := 47) rfl)
theorem w48 {Z : State} {a0 : Array Value} (hw : HW Z a0) : ((Jvm.Cond.declares ({ cls := "com/example/singlet/singlet/network/Domain", name := "firstAtLeast", desc := "(J)I" } : Jvm.MethodName))).before a0 Z = true := hw _ (List.mem_of_getElem? (i := 48) rfl)
theorem w49 {Z : State} {a0 : Array Value} (hw : HW Z a0) : ((Jvm.Cond.instanceMethod ({ cls := "com/example/singlet/singlet/network/Domain", name := "firstAtLeast", desc := "(J)I" } : Jvm.MethodName))).before a0 Z = true := hw _ (List.mem_of_getElem? (i := 49) rfl)
theorem w50 {Z : State} {a0 : Array Value} (hw : HW Z a0) : ((Jvm.Cond.selects "com/example/singlet/singlet/network/Domain" ({ cls := "com/example/singlet/singlet/network/Domain", name := "firstAtLeast", desc := "(J)I" } : Jvm.MethodName) ({ cls := "com/example/singlet/singlet/network/Domain", name := "firstAtLeast", desc := "(J)I" } : Jvm.MethodName))).before a0 Z = true := hw _ (List.mem_of_getElem? (i := 50) rfl)
theorem w51 {Z : State} {a0 : Array Value} (hw : HW Z a0) : ((Jvm.Cond.code ({ cls := "com/example/singlet/singlet/network/Domain", name := "firstAtLeast", desc := "(J)I" } : Jvm.MethodName) prog_11_method_8_code (6 : Nat) (Option.some Jvm.ClassFile.FieldType.int))).before a0 Z = true := hw _ (List.mem_of_getElem? (i := 51) rfl)
theorem w52 {Z : State} {a0 : Array Value} (hw : HW Z a0) : ((Jvm.Cond.constantLong "com/example/singlet/singlet/network/DomainFirstAtLeastPinLaw" (12 : Nat) (3 : Int64))).before a0 Z = true := hw _ (List.mem_of_getElem? (i := 52) rfl)
theorem pd_0 : parseMethodDescriptor "([ILcom/example/singlet/singlet/network/Trail;I)V" = some ⟨[(.array .int), (.object "com/example/singlet/singlet/network/Trail"), .int], none⟩ := by decide +kernel
theorem pd_1 : parseMethodDescriptor "(ZJJ)I" = some ⟨[.boolean, .long, .long], some .int⟩ := by decide +kernel
theorem pd_2 : parseMethodDescriptor "([I)V" = some ⟨[(.array .int)], none⟩ := by decide +kernel
theorem pd_3 : parseMethodDescriptor "(J)I" = some ⟨[.long], some .int⟩ := by decide +kernel
theorem d1_0 : decode method_2_code 0 = .ok (.iload_n 0, 1) := by decide +kernel
theorem d1_1 : decode method_2_code 1 = .ok (.ifCond .eq 13, 3) := by decide +kernel
theorem d1_4 : decode method_2_code 4 = .ok (.lload_n 1, 1) := by decide +kernel
theorem d1_5 : decode method_2_code 5 = .ok (.lload_n 3, 1) := by decide +kernel
theorem d1_6 : decode method_2_code 6 = .ok (.lcmp, 1) := by decide +kernel
theorem d1_7 : decode method_2_code 7 = .ok (.ifCond .ge 7, 3) := by decide +kernel
theorem d1_10 : decode method_2_code 10 = .ok (.iconst 1, 1) := by decide +kernel
theorem d1_11 : decode method_2_code 11 = .ok (.goto 4, 3) := by decide +kernel
theorem d1_14 : decode method_2_code 14 = .ok (.iconst 0, 1) := by decide +kernel
theorem d1_15 : decode method_2_code 15 = .ok (.ireturn, 1) := by decide +kernel
theorem d2_0 : decode prog_11_method_1_code 0 = .ok (.aload_n 0, 1) := by decide +kernel
theorem d2_1 : decode prog_11_method_1_code 1 = .ok (.aload_n 1, 1) := by decide +kernel
theorem d2_2 : decode prog_11_method_1_code 2 = .ok (.aconst_null, 1) := by decide +kernel
theorem d2_3 : decode prog_11_method_1_code 3 = .ok (.iconst (-1), 1) := by decide +kernel
theorem d2_4 : decode prog_11_method_1_code 4 = .ok (.invokespecial 1, 3) := by decide +kernel
theorem d2_7 : decode prog_11_method_1_code 7 = .ok (.return_, 1) := by decide +kernel
theorem d3_0 : decode prog_11_method_2_code 0 = .ok (.aload_n 0, 1) := by decide +kernel
theorem d3_1 : decode prog_11_method_2_code 1 = .ok (.invokespecial 7, 3) := by decide +kernel
theorem d3_4 : decode prog_11_method_2_code 4 = .ok (.iconst 1, 1) := by decide +kernel
theorem d3_5 : decode prog_11_method_2_code 5 = .ok (.istore 4, 2) := by decide +kernel
theorem d3_7 : decode prog_11_method_2_code 7 = .ok (.iload 4, 2) := by decide +kernel
theorem d3_9 : decode prog_11_method_2_code 9 = .ok (.aload_n 1, 1) := by decide +kernel
theorem d3_10 : decode prog_11_method_2_code 10 = .ok (.arraylength, 1) := by decide +kernel
theorem d3_11 : decode prog_11_method_2_code 11 = .ok (.if_icmp .ge 47, 3) := by decide +kernel
theorem d3_14 : decode prog_11_method_2_code 14 = .ok (.aload_n 1, 1) := by decide +kernel
theorem d3_15 : decode prog_11_method_2_code 15 = .ok (.iload 4, 2) := by decide +kernel
theorem d3_17 : decode prog_11_method_2_code 17 = .ok (.iconst 1, 1) := by decide +kernel
theorem d3_18 : decode prog_11_method_2_code 18 = .ok (.isub, 1) := by decide +kernel
theorem d3_19 : decode prog_11_method_2_code 19 = .ok (.iaload, 1) := by decide +kernel
theorem d3_20 : decode prog_11_method_2_code 20 = .ok (.aload_n 1, 1) := by decide +kernel
theorem d3_21 : decode prog_11_method_2_code 21 = .ok (.iload 4, 2) := by decide +kernel
theorem d3_23 : decode prog_11_method_2_code 23 = .ok (.iaload, 1) := by decide +kernel
theorem d3_24 : decode prog_11_method_2_code 24 = .ok (.if_icmp .lt 28, 3) := by decide +kernel
theorem d3_52 : decode prog_11_method_2_code 52 = .ok (.iinc 4 1, 3) := by decide +kernel
theorem d3_55 : decode prog_11_method_2_code 55 = .ok (.goto (-48), 3) := by decide +kernel
theorem d3_58 : decode prog_11_method_2_code 58 = .ok (.aload_n 1, 1) := by decide +kernel
theorem d3_59 : decode prog_11_method_2_code 59 = .ok (.arraylength, 1) := by decide +kernel
theorem d3_60 : decode prog_11_method_2_code 60 = .ok (.istore 4, 2) := by decide +kernel
theorem d3_62 : decode prog_11_method_2_code 62 = .ok (.aload_n 0, 1) := by decide +kernel
theorem d3_63 : decode prog_11_method_2_code 63 = .ok (.aload_n 1, 1) := by decide +kernel
theorem d3_64 : decode prog_11_method_2_code 64 = .ok (.invokevirtual 21, 3) := by decide +kernel
theorem d3_67 : decode prog_11_method_2_code 67 = .ok (.checkcast 22, 3) := by decide +kernel
theorem d3_70 : decode prog_11_method_2_code 70 = .ok (.putfield 27, 3) := by decide +kernel
theorem d3_73 : decode prog_11_method_2_code 73 = .ok (.aload_n 0, 1) := by decide +kernel
theorem d3_74 : decode prog_11_method_2_code 74 = .ok (.iload 4, 2) := by decide +kernel
theorem d3_76 : decode prog_11_method_2_code 76 = .ok (.newarray .boolean, 2) := by decide +kernel
theorem d3_78 : decode prog_11_method_2_code 78 = .ok (.putfield 30, 3) := by decide +kernel
theorem d3_81 : decode prog_11_method_2_code 81 = .ok (.aload_n 0, 1) := by decide +kernel
theorem d3_82 : decode prog_11_method_2_code 82 = .ok (.iload 4, 2) := by decide +kernel
theorem d3_84 : decode prog_11_method_2_code 84 = .ok (.newarray .int, 2) := by decide +kernel
theorem d3_86 : decode prog_11_method_2_code 86 = .ok (.putfield 34, 3) := by decide +kernel
theorem d3_89 : decode prog_11_method_2_code 89 = .ok (.aload_n 0, 1) := by decide +kernel
theorem d3_90 : decode prog_11_method_2_code 90 = .ok (.iload 4, 2) := by decide +kernel
theorem d3_92 : decode prog_11_method_2_code 92 = .ok (.newarray .int, 2) := by decide +kernel
theorem d3_94 : decode prog_11_method_2_code 94 = .ok (.putfield 37, 3) := by decide +kernel
theorem d3_97 : decode prog_11_method_2_code 97 = .ok (.aload_n 0, 1) := by decide +kernel
theorem d3_98 : decode prog_11_method_2_code 98 = .ok (.iload 4, 2) := by decide +kernel
theorem d3_100 : decode prog_11_method_2_code 100 = .ok (.newarray .int, 2) := by decide +kernel
theorem d3_102 : decode prog_11_method_2_code 102 = .ok (.putfield 40, 3) := by decide +kernel
theorem d3_105 : decode prog_11_method_2_code 105 = .ok (.iconst 0, 1) := by decide +kernel
theorem d3_106 : decode prog_11_method_2_code 106 = .ok (.istore 5, 2) := by decide +kernel
theorem d3_108 : decode prog_11_method_2_code 108 = .ok (.iload 5, 2) := by decide +kernel
theorem d3_110 : decode prog_11_method_2_code 110 = .ok (.iload 4, 2) := by decide +kernel
theorem d3_112 : decode prog_11_method_2_code 112 = .ok (.if_icmp .ge 52, 3) := by decide +kernel
theorem d3_115 : decode prog_11_method_2_code 115 = .ok (.aload_n 0, 1) := by decide +kernel
theorem d3_116 : decode prog_11_method_2_code 116 = .ok (.getfield 30, 3) := by decide +kernel
theorem d3_119 : decode prog_11_method_2_code 119 = .ok (.iload 5, 2) := by decide +kernel
theorem d3_121 : decode prog_11_method_2_code 121 = .ok (.iconst 1, 1) := by decide +kernel
theorem d3_122 : decode prog_11_method_2_code 122 = .ok (.bastore, 1) := by decide +kernel
theorem d3_123 : decode prog_11_method_2_code 123 = .ok (.aload_n 0, 1) := by decide +kernel
theorem d3_124 : decode prog_11_method_2_code 124 = .ok (.getfield 34, 3) := by decide +kernel
theorem d3_127 : decode prog_11_method_2_code 127 = .ok (.iload 5, 2) := by decide +kernel
theorem d3_129 : decode prog_11_method_2_code 129 = .ok (.iload 5, 2) := by decide +kernel
theorem d3_131 : decode prog_11_method_2_code 131 = .ok (.iconst 1, 1) := by decide +kernel
theorem d3_132 : decode prog_11_method_2_code 132 = .ok (.iadd, 1) := by decide +kernel
theorem d3_133 : decode prog_11_method_2_code 133 = .ok (.iload 4, 2) := by decide +kernel
theorem d3_135 : decode prog_11_method_2_code 135 = .ok (.if_icmp .ge 10, 3) := by decide +kernel
theorem d3_138 : decode prog_11_method_2_code 138 = .ok (.iload 5, 2) := by decide +kernel
theorem d3_140 : decode prog_11_method_2_code 140 = .ok (.iconst 1, 1) := by decide +kernel
theorem d3_141 : decode prog_11_method_2_code 141 = .ok (.iadd, 1) := by decide +kernel
theorem d3_142 : decode prog_11_method_2_code 142 = .ok (.goto 4, 3) := by decide +kernel
theorem d3_145 : decode prog_11_method_2_code 145 = .ok (.iconst (-1), 1) := by decide +kernel
theorem d3_146 : decode prog_11_method_2_code 146 = .ok (.iastore, 1) := by decide +kernel
theorem d3_147 : decode prog_11_method_2_code 147 = .ok (.aload_n 0, 1) := by decide +kernel
theorem d3_148 : decode prog_11_method_2_code 148 = .ok (.getfield 37, 3) := by decide +kernel
theorem d3_151 : decode prog_11_method_2_code 151 = .ok (.iload 5, 2) := by decide +kernel
theorem d3_153 : decode prog_11_method_2_code 153 = .ok (.iload 5, 2) := by decide +kernel
theorem d3_155 : decode prog_11_method_2_code 155 = .ok (.iconst 1, 1) := by decide +kernel
theorem d3_156 : decode prog_11_method_2_code 156 = .ok (.isub, 1) := by decide +kernel
theorem d3_157 : decode prog_11_method_2_code 157 = .ok (.iastore, 1) := by decide +kernel
theorem d3_158 : decode prog_11_method_2_code 158 = .ok (.iinc 5 1, 3) := by decide +kernel
theorem d3_161 : decode prog_11_method_2_code 161 = .ok (.goto (-53), 3) := by decide +kernel
theorem d3_164 : decode prog_11_method_2_code 164 = .ok (.aload_n 0, 1) := by decide +kernel
theorem d3_165 : decode prog_11_method_2_code 165 = .ok (.iload 4, 2) := by decide +kernel
theorem d3_167 : decode prog_11_method_2_code 167 = .ok (.ifCond .le 7, 3) := by decide +kernel
theorem d3_170 : decode prog_11_method_2_code 170 = .ok (.iconst 0, 1) := by decide +kernel
theorem d3_171 : decode prog_11_method_2_code 171 = .ok (.goto 4, 3) := by decide +kernel
theorem d3_174 : decode prog_11_method_2_code 174 = .ok (.iconst (-1), 1) := by decide +kernel
theorem d3_175 : decode prog_11_method_2_code 175 = .ok (.putfield 43, 3) := by decide +kernel
theorem d3_178 : decode prog_11_method_2_code 178 = .ok (.aload_n 0, 1) := by decide +kernel
theorem d3_179 : decode prog_11_method_2_code 179 = .ok (.iload 4, 2) := by decide +kernel
theorem d3_181 : decode prog_11_method_2_code 181 = .ok (.iconst 1, 1) := by decide +kernel
theorem d3_182 : decode prog_11_method_2_code 182 = .ok (.isub, 1) := by decide +kernel
theorem d3_183 : decode prog_11_method_2_code 183 = .ok (.putfield 47, 3) := by decide +kernel
theorem d3_186 : decode prog_11_method_2_code 186 = .ok (.aload_n 0, 1) := by decide +kernel
theorem d3_187 : decode prog_11_method_2_code 187 = .ok (.aload_n 2, 1) := by decide +kernel
theorem d3_188 : decode prog_11_method_2_code 188 = .ok (.putfield 50, 3) := by decide +kernel
theorem d3_191 : decode prog_11_method_2_code 191 = .ok (.aload_n 0, 1) := by decide +kernel
theorem d3_192 : decode prog_11_method_2_code 192 = .ok (.iload_n 3, 1) := by decide +kernel
theorem d3_193 : decode prog_11_method_2_code 193 = .ok (.putfield 54, 3) := by decide +kernel
theorem d3_196 : decode prog_11_method_2_code 196 = .ok (.return_, 1) := by decide +kernel
theorem d5_0 : decode prog_11_method_8_code 0 = .ok (.iconst 0, 1) := by decide +kernel
theorem d5_1 : decode prog_11_method_8_code 1 = .ok (.istore_n 3, 1) := by decide +kernel
theorem d5_2 : decode prog_11_method_8_code 2 = .ok (.aload_n 0, 1) := by decide +kernel
theorem d5_3 : decode prog_11_method_8_code 3 = .ok (.getfield 27, 3) := by decide +kernel
theorem d5_6 : decode prog_11_method_8_code 6 = .ok (.arraylength, 1) := by decide +kernel
theorem d5_7 : decode prog_11_method_8_code 7 = .ok (.istore 4, 2) := by decide +kernel
theorem d5_9 : decode prog_11_method_8_code 9 = .ok (.iload_n 3, 1) := by decide +kernel
theorem d5_10 : decode prog_11_method_8_code 10 = .ok (.iload 4, 2) := by decide +kernel
theorem d5_12 : decode prog_11_method_8_code 12 = .ok (.if_icmp .ge 39, 3) := by decide +kernel
theorem d5_15 : decode prog_11_method_8_code 15 = .ok (.iload_n 3, 1) := by decide +kernel
theorem d5_16 : decode prog_11_method_8_code 16 = .ok (.iload 4, 2) := by decide +kernel
theorem d5_18 : decode prog_11_method_8_code 18 = .ok (.iadd, 1) := by decide +kernel
theorem d5_19 : decode prog_11_method_8_code 19 = .ok (.iconst 1, 1) := by decide +kernel
theorem d5_20 : decode prog_11_method_8_code 20 = .ok (.iushr, 1) := by decide +kernel
theorem d5_21 : decode prog_11_method_8_code 21 = .ok (.istore 5, 2) := by decide +kernel
theorem d5_23 : decode prog_11_method_8_code 23 = .ok (.aload_n 0, 1) := by decide +kernel
theorem d5_24 : decode prog_11_method_8_code 24 = .ok (.getfield 27, 3) := by decide +kernel
theorem d5_27 : decode prog_11_method_8_code 27 = .ok (.iload 5, 2) := by decide +kernel
theorem d5_29 : decode prog_11_method_8_code 29 = .ok (.iaload, 1) := by decide +kernel
theorem d5_30 : decode prog_11_method_8_code 30 = .ok (.i2l, 1) := by decide +kernel
theorem d5_31 : decode prog_11_method_8_code 31 = .ok (.lload_n 1, 1) := by decide +kernel
theorem d5_32 : decode prog_11_method_8_code 32 = .ok (.lcmp, 1) := by decide +kernel
theorem d5_33 : decode prog_11_method_8_code 33 = .ok (.ifCond .ge 11, 3) := by decide +kernel
theorem d5_36 : decode prog_11_method_8_code 36 = .ok (.iload 5, 2) := by decide +kernel
theorem d5_38 : decode prog_11_method_8_code 38 = .ok (.iconst 1, 1) := by decide +kernel
theorem d5_39 : decode prog_11_method_8_code 39 = .ok (.iadd, 1) := by decide +kernel
theorem d5_40 : decode prog_11_method_8_code 40 = .ok (.istore_n 3, 1) := by decide +kernel
theorem d5_41 : decode prog_11_method_8_code 41 = .ok (.goto 7, 3) := by decide +kernel
theorem d5_44 : decode prog_11_method_8_code 44 = .ok (.iload 5, 2) := by decide +kernel
theorem d5_46 : decode prog_11_method_8_code 46 = .ok (.istore 4, 2) := by decide +kernel
theorem d5_48 : decode prog_11_method_8_code 48 = .ok (.goto (-39), 3) := by decide +kernel
theorem d5_51 : decode prog_11_method_8_code 51 = .ok (.iload_n 3, 1) := by decide +kernel
theorem d5_52 : decode prog_11_method_8_code 52 = .ok (.ireturn, 1) := by decide +kernel
def B0 : Bod := ("com/example/singlet/singlet/network/DomainFirstAtLeastPinLaw", "law", code, maxLocals, ret, room_1)
theorem pl0 : plainFor (⟨"com/example/singlet/singlet/network/DomainFirstAtLeastPinLaw", "law", "(IIIIJI)Z"⟩ : MethodName) = true := plainFor_of_name (by first | (simp [plainName, overriddenIn]; done) | decide +kernel)
def B1 : Bod := ("com/example/singlet/singlet/network/DomainFirstAtLeastPinLaw", "below", method_2_code, 5, some .int, ({ frames := 0, cells := 0, slots := 0, locals := 0 } : Room))
theorem pl1 : plainFor (⟨"com/example/singlet/singlet/network/DomainFirstAtLeastPinLaw", "below", "(ZJJ)I"⟩ : MethodName) = true := plainFor_of_name (by first | (simp [plainName, overriddenIn]; done) | decide +kernel)
def B2 : Bod := ("com/example/singlet/singlet/network/Domain", "<init>", prog_11_method_1_code, 2, none, ({ frames := 2, cells := 5, slots := 20, locals := 33 } : Room))
theorem pl2 : plainFor (⟨"com/example/singlet/singlet/network/Domain", "<init>", "([I)V"⟩ : MethodName) = true := plainFor_of_name (by first | (simp [plainName, overriddenIn]; done) | decide +kernel)
def B3 : Bod := ("com/example/singlet/singlet/network/Domain", "<init>", prog_11_method_2_code, 6, none, ({ frames := 1, cells := 5, slots := 20, locals := 16 } : Room))
theorem pl3 : plainFor (⟨"com/example/singlet/singlet/network/Domain", "<init>", "([ILcom/example/singlet/singlet/network/Trail;I)V"⟩ : MethodName) = true := plainFor_of_name (by first | (simp [plainName, overriddenIn]; done) | decide +kernel)
def B5 : Bod := ("com/example/singlet/singlet/network/Domain", "firstAtLeast", prog_11_method_8_code, 6, some .int, ({ frames := 0, cells := 0, slots := 0, locals := 0 } : Room))
theorem pl5 : plainFor (⟨"com/example/singlet/singlet/network/Domain", "firstAtLeast", "(J)I"⟩ : MethodName) = true := plainFor_of_name (by first | (simp [plainName, overriddenIn]; done) | decide +kernel)
def L_DM : OLay := [("com/example/singlet/singlet/network/Domain", "values", "[I"), ("com/example/singlet/singlet/network/Domain", "present", "[Z"), ("com/example/singlet/singlet/network/Domain", "next", "[I"), ("com/example/singlet/singlet/network/Domain", "previous", "[I"), ("com/example/singlet/singlet/network/Domain", "removed", "[I"), ("com/example/singlet/singlet/network/Domain", "head", "I"), ("com/example/singlet/singlet/network/Domain", "tail", "I"), ("com/example/singlet/singlet/network/Domain", "trail", "Lcom/example/singlet/singlet/network/Trail;"), ("com/example/singlet/singlet/network/Domain", "variable", "I")]
theorem lay_DM {Z : State} {a0 : Array Value} (hw : HW Z a0) : OLaids Z a0 "com/example/singlet/singlet/network/Domain" L_DM := by
  intro q hq
  simp only [L_DM, List.mem_cons, List.not_mem_nil, or_false] at hq
  rcases hq with rfl | rfl | rfl | rfl | rfl | rfl | rfl | rfl | rfl
  · exact ⟨Or.inr (w29 hw), (.array .int), by decide⟩
  · exact ⟨Or.inr (w32 hw), (.array .boolean), by decide⟩
  · exact ⟨Or.inr (w34 hw), (.array .int), by decide⟩
  · exact ⟨Or.inr (w36 hw), (.array .int), by decide⟩
  · exact ⟨Or.inr (w38 hw), (.array .int), by decide⟩
  · exact ⟨Or.inl (w40 hw), .int, by decide⟩
  · exact ⟨Or.inl (w42 hw), .int, by decide⟩
  · exact ⟨Or.inr (w44 hw), (.object "com/example/singlet/singlet/network/Trail"), by decide⟩
  · exact ⟨Or.inr (w46 hw), .int, by decide⟩
theorem bel_met {l : Launch} {Z : State} {a0 : Array Value} (hw : HW Z a0) {n0 : Nat} {h : Heap} (u : Int32) (x y : Int64) : OMet l (⟨"com/example/singlet/singlet/network/DomainFirstAtLeastPinLaw", "below", "(ZJJ)I"⟩ : MethodName) B1 Z n0 #[(.int u), (.long x), (.long y)] h (fun v h' => h = h' ∧ ∃ r : Int32, v = some (.int r) ∧ (((u.toInt ≠ 0 ∧ x.toInt < y.toInt) ∧ r.toInt = 1) ∨ (¬ (u.toInt ≠ 0 ∧ x.toInt < y.toInt) ∧ r.toInt = 0))) := by
  refine OMet.of_wp (ls0 := #[.val (.int u), .val (.long x), .second, .val (.long y), .second]) pl1 rfl rfl (fun m => own_entry 0 rfl rfl) ?_
  have k32_0 : (0 : Int32).toInt = 0 := by decide
  have k32_1 : (1 : Int32).toInt = 1 := by decide
  refine WP.iloadN d1_0 rfl (pc' := 1) rfl ?_
  refine WP.ifEq d1_1 (tgt := 14) (by decide) (pc' := 4) rfl (fun c1 => ?_) (fun c1 => ?_)
  ·
    refine WP.iconst d1_14 (z := (0 : Int32)) rfl (pc' := 15) rfl ?_
    exact WP.retI d1_15 rfl (by decide) (by decide) ⟨rfl, _, rfl, by omega⟩
  refine WP.lloadN d1_4 rfl (pc' := 5) rfl ?_
  refine WP.lloadN d1_5 rfl (pc' := 6) rfl ?_
  refine WP.lcmpGe d1_6 rfl d1_7 (tgt := 14) (by decide) (pc' := 10) rfl (fun c6 => ?_) (fun c6 => ?_)
  ·
    refine WP.iconst d1_14 (z := (0 : Int32)) rfl (pc' := 15) rfl ?_
    exact WP.retI d1_15 rfl (by decide) (by decide) ⟨rfl, _, rfl, by omega⟩
  refine WP.iconst d1_10 (z := (1 : Int32)) rfl (pc' := 11) rfl ?_
  refine WP.goto d1_11 (pc' := 15) (by decide) ?_
  exact WP.retI d1_15 rfl (by decide) (by decide) ⟨rfl, _, rfl, by omega⟩
theorem c2_0 {l : Launch} {Z : State} {a0 : Array Value} (hw : HW Z a0) {n0 : Nat} {h : Heap} (q a : Addr)  (g_q : n0 ≤ q) (O_q : Ob Z h q "com/example/singlet/singlet/network/Domain" L_DM [.null, .null, .null, .null, .null, (.int 0), (.int 0), .null, (.int 0)]) (A_a : Av Z h a .int []) (E_a : Exa Z h a "[I") (hs : True) (n_qa : q ≠ a) : OMet l (⟨"com/example/singlet/singlet/network/Domain", "<init>", "([ILcom/example/singlet/singlet/network/Trail;I)V"⟩ : MethodName) B3 Z n0 #[(.ref q), (.ref a), .null, (.int (-1 : Int32))] h (fun v h' => v = none ∧ ∃ (va : Addr) (z1 z2 z3 z4 z5 z6 z7 z8 : Value), Ob Z h' q "com/example/singlet/singlet/network/Domain" L_DM [.ref va, z1, z2, z3, z4, z5, z6, z7, z8] ∧ Av Z h' va .int []) := by
  refine OMet.of_wp (ls0 := #[.val (.ref q), .val (.ref a), .val .null, .val (.int (-1 : Int32)), .unset, .unset]) pl3 rfl rfl (fun m => own_entry 2 rfl rfl) ?_
  have k32_m1 : (-1 : Int32).toInt = -1 := by decide
  have k32_0 : (0 : Int32).toInt = 0 := by decide
  have k32_1 : (1 : Int32).toInt = 1 := by decide
  refine WP.aloadN d3_0 rfl rfl (pc' := 1) rfl ?_
  refine WP.initO (a := q) d3_1 (w16 hw) (w17 hw) (w18 hw) rfl (by decide) (Nat.le_of_ble_eq_true rfl) (pc' := 4) rfl ?_
  refine WP.iconst d3_4 (z := (1 : Int32)) rfl (pc' := 5) rfl ?_
  refine WP.istore d3_5 (pc' := 7) rfl (ls' := #[.val (.ref q), .val (.ref a), .val .null, .val (.int (-1 : Int32)), .val (.int (1 : Int32)), .unset]) rfl ?_
  refine WP.iload d3_7 rfl (pc' := 9) rfl ?_
  refine WP.aloadN d3_9 rfl rfl (pc' := 10) rfl ?_
  refine WP.alen d3_10 A_a (k := (0 : Int32)) rfl (pc' := 11) rfl ?_
  refine WP.icmpGe d3_11 (tgt := 58) (by decide) (pc' := 14) rfl (fun c11 => ?_) (fun c11 => ?_)
  ·
    refine WP.aloadN d3_58 rfl rfl (pc' := 59) rfl ?_
    refine WP.alen d3_59 A_a (k := (0 : Int32)) rfl (pc' := 60) rfl ?_
    refine WP.istore d3_60 (pc' := 62) rfl (ls' := #[.val (.ref q), .val (.ref a), .val .null, .val (.int (-1 : Int32)), .val (.int (0 : Int32)), .unset]) rfl ?_
    refine WP.aloadN d3_62 rfl rfl (pc' := 63) rfl ?_
    refine WP.aloadN d3_63 rfl rfl (pc' := 64) rfl ?_
    refine WP.aclone (ad := "[I") d3_64 (w19 hw) (w20 hw) (w24 hw) (w22 hw) (w23 hw) (w25 hw) A_a E_a (fun q v hv => by simp at hv) rfl (by decide) (Nat.le_of_ble_eq_true rfl) 0 (Nat.le_of_ble_eq_true rfl) (by decide) (by decide) (pc' := 67) rfl ?_
    intro va h1 eb_va g_va K2 A_va E_va
    have lt_q_va : q < va := by rw [eb_va]; exact O_q.lt
    have lt_a_va : a < va := by rw [eb_va]; exact A_a.lt
    replace E_a := E_a.keep K2
    replace O_q := O_q.keep K2 own_nil
    replace A_a := A_a.keep K2 own_nil
    refine WP.cast d3_67 (w26 hw) (Ins.self E_va) (pc' := 70) rfl ?_
    refine WP.putf (i := 0) d3_70 (w28 hw) O_q (lay_DM hw) (by decide) rfl (Or.inr ⟨(w29 hw), rfl, rfl⟩) (w8 hw) (t := (.array .int)) (by decide) rfl rfl g_q (pc' := 73) rfl ?_
    intro h3 K4 O_n
    replace E_a := E_a.keep K4
    replace E_va := E_va.keep K4
    replace A_a := A_a.keep K4 (own_cons (by first | assumption | exact Ne.symm (by assumption) | exact Nat.ne_of_lt (by assumption) | exact Nat.ne_of_gt (by assumption)) own_nil)
    replace A_va := A_va.keep K4 (own_cons (by first | assumption | exact Ne.symm (by assumption) | exact Nat.ne_of_lt (by assumption) | exact Nat.ne_of_gt (by assumption)) own_nil)
    replace O_q : Ob Z h3 q "com/example/singlet/singlet/network/Domain" L_DM [(.ref va), .null, .null, .null, .null, (.int 0), (.int 0), .null, (.int 0)] := O_n
    clear O_n
    refine WP.aloadN d3_73 rfl rfl (pc' := 74) rfl ?_
    refine WP.iload d3_74 rfl (pc' := 76) rfl ?_
    refine WP.newarrE d3_76 (w30 hw) (k := 0) rfl 0 (by decide) (by decide) (by decide) (by decide) (ad := "[Z") (by decide) (pc' := 78) rfl ?_
    intro pr h5 eb_pr g_pr K6 A_pr E_pr
    replace A_pr : Av Z h5 pr .boolean [] := A_pr
    have lt_q_pr : q < pr := by rw [eb_pr]; exact O_q.lt
    have lt_a_pr : a < pr := by rw [eb_pr]; exact A_a.lt
    have lt_va_pr : va < pr := by rw [eb_pr]; exact A_va.lt
    replace E_a := E_a.keep K6
    replace E_va := E_va.keep K6
    replace O_q := O_q.keep K6 own_nil
    replace A_a := A_a.keep K6 own_nil
    replace A_va := A_va.keep K6 own_nil
    refine WP.putf (i := 1) d3_78 (w31 hw) O_q (lay_DM hw) (by decide) rfl (Or.inr ⟨(w32 hw), rfl, rfl⟩) (w8 hw) (t := (.array .boolean)) (by decide) rfl rfl g_q (pc' := 81) rfl ?_
    intro h7 K8 O_n
    replace E_a := E_a.keep K8
    replace E_va := E_va.keep K8
    replace E_pr := E_pr.keep K8
    replace A_a := A_a.keep K8 (own_cons (by first | assumption | exact Ne.symm (by assumption) | exact Nat.ne_of_lt (by assumption) | exact Nat.ne_of_gt (by assumption)) own_nil)
    replace A_va := A_va.keep K8 (own_cons (by first | assumption | exact Ne.symm (by assumption) | exact Nat.ne_of_lt (by assumption) | exact Nat.ne_of_gt (by assumption)) own_nil)
    replace A_pr := A_pr.keep K8 (own_cons (by first | assumption | exact Ne.symm (by assumption) | exact Nat.ne_of_lt (by assumption) | exact Nat.ne_of_gt (by assumption)) own_nil)
    replace O_q : Ob Z h7 q "com/example/singlet/singlet/network/Domain" L_DM [(.ref va), (.ref pr), .null, .null, .null, (.int 0), (.int 0), .null, (.int 0)] := O_n
    clear O_n
    refine WP.aloadN d3_81 rfl rfl (pc' := 82) rfl ?_
    refine WP.iload d3_82 rfl (pc' := 84) rfl ?_
    refine WP.newarrE d3_84 (w2 hw) (k := 0) rfl 0 (by decide) (by decide) (by decide) (by decide) (ad := "[I") (by decide) (pc' := 86) rfl ?_
    intro nx h9 eb_nx g_nx K10 A_nx E_nx
    replace A_nx : Av Z h9 nx .int [] := A_nx
    have lt_q_nx : q < nx := by rw [eb_nx]; exact O_q.lt
    have lt_a_nx : a < nx := by rw [eb_nx]; exact A_a.lt
    have lt_va_nx : va < nx := by rw [eb_nx]; exact A_va.lt
    have lt_pr_nx : pr < nx := by rw [eb_nx]; exact A_pr.lt
    replace E_a := E_a.keep K10
    replace E_va := E_va.keep K10
    replace E_pr := E_pr.keep K10
    replace O_q := O_q.keep K10 own_nil
    replace A_a := A_a.keep K10 own_nil
    replace A_va := A_va.keep K10 own_nil
    replace A_pr := A_pr.keep K10 own_nil
    refine WP.putf (i := 2) d3_86 (w33 hw) O_q (lay_DM hw) (by decide) rfl (Or.inr ⟨(w34 hw), rfl, rfl⟩) (w8 hw) (t := (.array .int)) (by decide) rfl rfl g_q (pc' := 89) rfl ?_
    intro h11 K12 O_n
    replace E_a := E_a.keep K12
    replace E_va := E_va.keep K12
    replace E_pr := E_pr.keep K12
    replace E_nx := E_nx.keep K12
    replace A_a := A_a.keep K12 (own_cons (by first | assumption | exact Ne.symm (by assumption) | exact Nat.ne_of_lt (by assumption) | exact Nat.ne_of_gt (by assumption)) own_nil)
    replace A_va := A_va.keep K12 (own_cons (by first | assumption | exact Ne.symm (by assumption) | exact Nat.ne_of_lt (by assumption) | exact Nat.ne_of_gt (by assumption)) own_nil)
    replace A_pr := A_pr.keep K12 (own_cons (by first | assumption | exact Ne.symm (by assumption) | exact Nat.ne_of_lt (by assumption) | exact Nat.ne_of_gt (by assumption)) own_nil)
    replace A_nx := A_nx.keep K12 (own_cons (by first | assumption | exact Ne.symm (by assumption) | exact Nat.ne_of_lt (by assumption) | exact Nat.ne_of_gt (by assumption)) own_nil)
    replace O_q : Ob Z h11 q "com/example/singlet/singlet/network/Domain" L_DM [(.ref va), (.ref pr), (.ref nx), .null, .null, (.int 0), (.int 0), .null, (.int 0)] := O_n
    clear O_n
    refine WP.aloadN d3_89 rfl rfl (pc' := 90) rfl ?_
    refine WP.iload d3_90 rfl (pc' := 92) rfl ?_
    refine WP.newarrE d3_92 (w2 hw) (k := 0) rfl 0 (by decide) (by decide) (by decide) (by decide) (ad := "[I") (by decide) (pc' := 94) rfl ?_
    intro pv h13 eb_pv g_pv K14 A_pv E_pv
    replace A_pv : Av Z h13 pv .int [] := A_pv
    have lt_q_pv : q < pv := by rw [eb_pv]; exact O_q.lt
    have lt_a_pv : a < pv := by rw [eb_pv]; exact A_a.lt
    have lt_va_pv : va < pv := by rw [eb_pv]; exact A_va.lt
    have lt_pr_pv : pr < pv := by rw [eb_pv]; exact A_pr.lt
    have lt_nx_pv : nx < pv := by rw [eb_pv]; exact A_nx.lt
    replace E_a := E_a.keep K14
    replace E_va := E_va.keep K14
    replace E_pr := E_pr.keep K14
    replace E_nx := E_nx.keep K14
    replace O_q := O_q.keep K14 own_nil
    replace A_a := A_a.keep K14 own_nil
    replace A_va := A_va.keep K14 own_nil
    replace A_pr := A_pr.keep K14 own_nil
    replace A_nx := A_nx.keep K14 own_nil
    refine WP.putf (i := 3) d3_94 (w35 hw) O_q (lay_DM hw) (by decide) rfl (Or.inr ⟨(w36 hw), rfl, rfl⟩) (w8 hw) (t := (.array .int)) (by decide) rfl rfl g_q (pc' := 97) rfl ?_
    intro h15 K16 O_n
    replace E_a := E_a.keep K16
    replace E_va := E_va.keep K16
    replace E_pr := E_pr.keep K16
    replace E_nx := E_nx.keep K16
    replace E_pv := E_pv.keep K16
    replace A_a := A_a.keep K16 (own_cons (by first | assumption | exact Ne.symm (by assumption) | exact Nat.ne_of_lt (by assumption) | exact Nat.ne_of_gt (by assumption)) own_nil)
    replace A_va := A_va.keep K16 (own_cons (by first | assumption | exact Ne.symm (by assumption) | exact Nat.ne_of_lt (by assumption) | exact Nat.ne_of_gt (by assumption)) own_nil)
    replace A_pr := A_pr.keep K16 (own_cons (by first | assumption | exact Ne.symm (by assumption) | exact Nat.ne_of_lt (by assumption) | exact Nat.ne_of_gt (by assumption)) own_nil)
    replace A_nx := A_nx.keep K16 (own_cons (by first | assumption | exact Ne.symm (by assumption) | exact Nat.ne_of_lt (by assumption) | exact Nat.ne_of_gt (by assumption)) own_nil)
    replace A_pv := A_pv.keep K16 (own_cons (by first | assumption | exact Ne.symm (by assumption) | exact Nat.ne_of_lt (by assumption) | exact Nat.ne_of_gt (by assumption)) own_nil)
    replace O_q : Ob Z h15 q "com/example/singlet/singlet/network/Domain" L_DM [(.ref va), (.ref pr), (.ref nx), (.ref pv), .null, (.int 0), (.int 0), .null, (.int 0)] := O_n
    clear O_n
    refine WP.aloadN d3_97 rfl rfl (pc' := 98) rfl ?_
    refine WP.iload d3_98 rfl (pc' := 100) rfl ?_
    refine WP.newarrE d3_100 (w2 hw) (k := 0) rfl 0 (by decide) (by decide) (by decide) (by decide) (ad := "[I") (by decide) (pc' := 102) rfl ?_
    intro rm h17 eb_rm g_rm K18 A_rm E_rm
    replace A_rm : Av Z h17 rm .int [] := A_rm
    have lt_q_rm : q < rm := by rw [eb_rm]; exact O_q.lt
    have lt_a_rm : a < rm := by rw [eb_rm]; exact A_a.lt
    have lt_va_rm : va < rm := by rw [eb_rm]; exact A_va.lt
    have lt_pr_rm : pr < rm := by rw [eb_rm]; exact A_pr.lt
    have lt_nx_rm : nx < rm := by rw [eb_rm]; exact A_nx.lt
    have lt_pv_rm : pv < rm := by rw [eb_rm]; exact A_pv.lt
    replace E_a := E_a.keep K18
    replace E_va := E_va.keep K18
    replace E_pr := E_pr.keep K18
    replace E_nx := E_nx.keep K18
    replace E_pv := E_pv.keep K18
    replace O_q := O_q.keep K18 own_nil
    replace A_a := A_a.keep K18 own_nil
    replace A_va := A_va.keep K18 own_nil
    replace A_pr := A_pr.keep K18 own_nil
    replace A_nx := A_nx.keep K18 own_nil
    replace A_pv := A_pv.keep K18 own_nil
    refine WP.putf (i := 4) d3_102 (w37 hw) O_q (lay_DM hw) (by decide) rfl (Or.inr ⟨(w38 hw), rfl, rfl⟩) (w8 hw) (t := (.array .int)) (by decide) rfl rfl g_q (pc' := 105) rfl ?_
    intro h19 K20 O_n
    replace E_a := E_a.keep K20
    replace E_va := E_va.keep K20
    replace E_pr := E_pr.keep K20
    replace E_nx := E_nx.keep K20
    replace E_pv := E_pv.keep K20
    replace E_rm := E_rm.keep K20
    replace A_a := A_a.keep K20 (own_cons (by first | assumption | exact Ne.symm (by assumption) | exact Nat.ne_of_lt (by assumption) | exact Nat.ne_of_gt (by assumption)) own_nil)
    replace A_va := A_va.keep K20 (own_cons (by first | assumption | exact Ne.symm (by assumption) | exact Nat.ne_of_lt (by assumption) | exact Nat.ne_of_gt (by assumption)) own_nil)
    replace A_pr := A_pr.keep K20 (own_cons (by first | assumption | exact Ne.symm (by assumption) | exact Nat.ne_of_lt (by assumption) | exact Nat.ne_of_gt (by assumption)) own_nil)
    replace A_nx := A_nx.keep K20 (own_cons (by first | assumption | exact Ne.symm (by assumption) | exact Nat.ne_of_lt (by assumption) | exact Nat.ne_of_gt (by assumption)) own_nil)
    replace A_pv := A_pv.keep K20 (own_cons (by first | assumption | exact Ne.symm (by assumption) | exact Nat.ne_of_lt (by assumption) | exact Nat.ne_of_gt (by assumption)) own_nil)
    replace A_rm := A_rm.keep K20 (own_cons (by first | assumption | exact Ne.symm (by assumption) | exact Nat.ne_of_lt (by assumption) | exact Nat.ne_of_gt (by assumption)) own_nil)
    replace O_q : Ob Z h19 q "com/example/singlet/singlet/network/Domain" L_DM [(.ref va), (.ref pr), (.ref nx), (.ref pv), (.ref rm), (.int 0), (.int 0), .null, (.int 0)] := O_n
    clear O_n
    refine WP.iconst d3_105 (z := (0 : Int32)) rfl (pc' := 106) rfl ?_
    refine WP.istore d3_106 (pc' := 108) rfl (ls' := #[.val (.ref q), .val (.ref a), .val .null, .val (.int (-1 : Int32)), .val (.int (0 : Int32)), .val (.int (0 : Int32))]) rfl ?_
    refine WP.iload d3_108 rfl (pc' := 110) rfl ?_
    refine WP.iload d3_110 rfl (pc' := 112) rfl ?_
    refine WP.icmpGe d3_112 (tgt := 164) (by decide) (pc' := 115) rfl (fun c112 => ?_) (fun c112 => ?_)
    ·
      refine WP.aloadN d3_164 rfl rfl (pc' := 165) rfl ?_
      refine WP.iload d3_165 rfl (pc' := 167) rfl ?_
      refine WP.ifLe d3_167 (tgt := 174) (by decide) (pc' := 170) rfl (fun c167 => ?_) (fun c167 => ?_)
      ·
        refine WP.iconst d3_174 (z := (-1 : Int32)) rfl (pc' := 175) rfl ?_
        refine WP.putf (i := 5) d3_175 (w39 hw) O_q (lay_DM hw) (by decide) rfl (Or.inl (w40 hw)) (w8 hw) (t := .int) (by decide) rfl rfl g_q (pc' := 178) rfl ?_
        intro h21 K22 O_n
        replace E_a := E_a.keep K22
        replace E_va := E_va.keep K22
        replace E_pr := E_pr.keep K22
        replace E_nx := E_nx.keep K22
        replace E_pv := E_pv.keep K22
        replace E_rm := E_rm.keep K22
        replace A_a := A_a.keep K22 (own_cons (by first | assumption | exact Ne.symm (by assumption) | exact Nat.ne_of_lt (by assumption) | exact Nat.ne_of_gt (by assumption)) own_nil)
        replace A_va := A_va.keep K22 (own_cons (by first | assumption | exact Ne.symm (by assumption) | exact Nat.ne_of_lt (by assumption) | exact Nat.ne_of_gt (by assumption)) own_nil)
        replace A_pr := A_pr.keep K22 (own_cons (by first | assumption | exact Ne.symm (by assumption) | exact Nat.ne_of_lt (by assumption) | exact Nat.ne_of_gt (by assumption)) own_nil)
        replace A_nx := A_nx.keep K22 (own_cons (by first | assumption | exact Ne.symm (by assumption) | exact Nat.ne_of_lt (by assumption) | exact Nat.ne_of_gt (by assumption)) own_nil)
        replace A_pv := A_pv.keep K22 (own_cons (by first | assumption | exact Ne.symm (by assumption) | exact Nat.ne_of_lt (by assumption) | exact Nat.ne_of_gt (by assumption)) own_nil)
        replace A_rm := A_rm.keep K22 (own_cons (by first | assumption | exact Ne.symm (by assumption) | exact Nat.ne_of_lt (by assumption) | exact Nat.ne_of_gt (by assumption)) own_nil)
        replace O_q : Ob Z h21 q "com/example/singlet/singlet/network/Domain" L_DM [(.ref va), (.ref pr), (.ref nx), (.ref pv), (.ref rm), (.int (-1 : Int32)), (.int 0), .null, (.int 0)] := O_n
        clear O_n
        refine WP.aloadN d3_178 rfl rfl (pc' := 179) rfl ?_
        refine WP.iload d3_179 rfl (pc' := 181) rfl ?_
        refine WP.iconst d3_181 (z := (1 : Int32)) rfl (pc' := 182) rfl ?_
        refine WP.isub d3_182 (pc' := 183) rfl ?_
        rw [show (((0 : Int32) - (1 : Int32)) : Int32) = (-1 : Int32) from by decide]
        refine WP.putf (i := 6) d3_183 (w41 hw) O_q (lay_DM hw) (by decide) rfl (Or.inl (w42 hw)) (w8 hw) (t := .int) (by decide) rfl rfl g_q (pc' := 186) rfl ?_
        intro h23 K24 O_n
        replace E_a := E_a.keep K24
        replace E_va := E_va.keep K24
        replace E_pr := E_pr.keep K24
        replace E_nx := E_nx.keep K24
        replace E_pv := E_pv.keep K24
        replace E_rm := E_rm.keep K24
        replace A_a := A_a.keep K24 (own_cons (by first | assumption | exact Ne.symm (by assumption) | exact Nat.ne_of_lt (by assumption) | exact Nat.ne_of_gt (by assumption)) own_nil)
        replace A_va := A_va.keep K24 (own_cons (by first | assumption | exact Ne.symm (by assumption) | exact Nat.ne_of_lt (by assumption) | exact Nat.ne_of_gt (by assumption)) own_nil)
        replace A_pr := A_pr.keep K24 (own_cons (by first | assumption | exact Ne.symm (by assumption) | exact Nat.ne_of_lt (by assumption) | exact Nat.ne_of_gt (by assumption)) own_nil)
        replace A_nx := A_nx.keep K24 (own_cons (by first | assumption | exact Ne.symm (by assumption) | exact Nat.ne_of_lt (by assumption) | exact Nat.ne_of_gt (by assumption)) own_nil)
        replace A_pv := A_pv.keep K24 (own_cons (by first | assumption | exact Ne.symm (by assumption) | exact Nat.ne_of_lt (by assumption) | exact Nat.ne_of_gt (by assumption)) own_nil)
        replace A_rm := A_rm.keep K24 (own_cons (by first | assumption | exact Ne.symm (by assumption) | exact Nat.ne_of_lt (by assumption) | exact Nat.ne_of_gt (by assumption)) own_nil)
        replace O_q : Ob Z h23 q "com/example/singlet/singlet/network/Domain" L_DM [(.ref va), (.ref pr), (.ref nx), (.ref pv), (.ref rm), (.int (-1 : Int32)), (.int (-1 : Int32)), .null, (.int 0)] := O_n
        clear O_n
        refine WP.aloadN d3_186 rfl rfl (pc' := 187) rfl ?_
        refine WP.aloadN d3_187 rfl rfl (pc' := 188) rfl ?_
        refine WP.putf (i := 7) d3_188 (w43 hw) O_q (lay_DM hw) (by decide) rfl (Or.inr ⟨(w44 hw), rfl, rfl⟩) (w8 hw) (t := (.object "com/example/singlet/singlet/network/Trail")) (by decide) rfl rfl g_q (pc' := 191) rfl ?_
        intro h25 K26 O_n
        replace E_a := E_a.keep K26
        replace E_va := E_va.keep K26
        replace E_pr := E_pr.keep K26
        replace E_nx := E_nx.keep K26
        replace E_pv := E_pv.keep K26
        replace E_rm := E_rm.keep K26
        replace A_a := A_a.keep K26 (own_cons (by first | assumption | exact Ne.symm (by assumption) | exact Nat.ne_of_lt (by assumption) | exact Nat.ne_of_gt (by assumption)) own_nil)
        replace A_va := A_va.keep K26 (own_cons (by first | assumption | exact Ne.symm (by assumption) | exact Nat.ne_of_lt (by assumption) | exact Nat.ne_of_gt (by assumption)) own_nil)
        replace A_pr := A_pr.keep K26 (own_cons (by first | assumption | exact Ne.symm (by assumption) | exact Nat.ne_of_lt (by assumption) | exact Nat.ne_of_gt (by assumption)) own_nil)
        replace A_nx := A_nx.keep K26 (own_cons (by first | assumption | exact Ne.symm (by assumption) | exact Nat.ne_of_lt (by assumption) | exact Nat.ne_of_gt (by assumption)) own_nil)
        replace A_pv := A_pv.keep K26 (own_cons (by first | assumption | exact Ne.symm (by assumption) | exact Nat.ne_of_lt (by assumption) | exact Nat.ne_of_gt (by assumption)) own_nil)
        replace A_rm := A_rm.keep K26 (own_cons (by first | assumption | exact Ne.symm (by assumption) | exact Nat.ne_of_lt (by assumption) | exact Nat.ne_of_gt (by assumption)) own_nil)
        replace O_q : Ob Z h25 q "com/example/singlet/singlet/network/Domain" L_DM [(.ref va), (.ref pr), (.ref nx), (.ref pv), (.ref rm), (.int (-1 : Int32)), (.int (-1 : Int32)), .null, (.int 0)] := O_n
        clear O_n
        refine WP.aloadN d3_191 rfl rfl (pc' := 192) rfl ?_
        refine WP.iloadN d3_192 rfl (pc' := 193) rfl ?_
        refine WP.putf (i := 8) d3_193 (w45 hw) O_q (lay_DM hw) (by decide) rfl (Or.inr ⟨(w46 hw), rfl, rfl⟩) (w8 hw) (t := .int) (by decide) rfl rfl g_q (pc' := 196) rfl ?_
        intro h27 K28 O_n
        replace E_a := E_a.keep K28
        replace E_va := E_va.keep K28
        replace E_pr := E_pr.keep K28
        replace E_nx := E_nx.keep K28
        replace E_pv := E_pv.keep K28
        replace E_rm := E_rm.keep K28
        replace A_a := A_a.keep K28 (own_cons (by first | assumption | exact Ne.symm (by assumption) | exact Nat.ne_of_lt (by assumption) | exact Nat.ne_of_gt (by assumption)) own_nil)
        replace A_va := A_va.keep K28 (own_cons (by first | assumption | exact Ne.symm (by assumption) | exact Nat.ne_of_lt (by assumption) | exact Nat.ne_of_gt (by assumption)) own_nil)
        replace A_pr := A_pr.keep K28 (own_cons (by first | assumption | exact Ne.symm (by assumption) | exact Nat.ne_of_lt (by assumption) | exact Nat.ne_of_gt (by assumption)) own_nil)
        replace A_nx := A_nx.keep K28 (own_cons (by first | assumption | exact Ne.symm (by assumption) | exact Nat.ne_of_lt (by assumption) | exact Nat.ne_of_gt (by assumption)) own_nil)
        replace A_pv := A_pv.keep K28 (own_cons (by first | assumption | exact Ne.symm (by assumption) | exact Nat.ne_of_lt (by assumption) | exact Nat.ne_of_gt (by assumption)) own_nil)
        replace A_rm := A_rm.keep K28 (own_cons (by first | assumption | exact Ne.symm (by assumption) | exact Nat.ne_of_lt (by assumption) | exact Nat.ne_of_gt (by assumption)) own_nil)
        replace O_q : Ob Z h27 q "com/example/singlet/singlet/network/Domain" L_DM [(.ref va), (.ref pr), (.ref nx), (.ref pv), (.ref rm), (.int (-1 : Int32)), (.int (-1 : Int32)), .null, (.int (-1 : Int32))] := O_n
        clear O_n
        exact WP.ret0 d3_196 rfl (by decide) (by decide) ⟨rfl, va, _, _, _, _, _, _, _, _, O_q, A_va⟩
      exfalso; omega
    exfalso; omega
  exfalso; omega
theorem c1_0 {l : Launch} {Z : State} {a0 : Array Value} (hw : HW Z a0) {n0 : Nat} {h : Heap} (q a : Addr)  (g_q : n0 ≤ q) (O_q : Ob Z h q "com/example/singlet/singlet/network/Domain" L_DM [.null, .null, .null, .null, .null, (.int 0), (.int 0), .null, (.int 0)]) (A_a : Av Z h a .int []) (E_a : Exa Z h a "[I") (hs : True) (n_qa : q ≠ a) : OMet l (⟨"com/example/singlet/singlet/network/Domain", "<init>", "([I)V"⟩ : MethodName) B2 Z n0 #[(.ref q), (.ref a)] h (fun v h' => v = none ∧ ∃ (va : Addr) (z1 z2 z3 z4 z5 z6 z7 z8 : Value), Ob Z h' q "com/example/singlet/singlet/network/Domain" L_DM [.ref va, z1, z2, z3, z4, z5, z6, z7, z8] ∧ Av Z h' va .int []) := by
  refine OMet.of_wp (ls0 := #[.val (.ref q), .val (.ref a)]) pl2 rfl rfl (fun m => own_entry 0 rfl rfl) ?_
  have k32_m1 : (-1 : Int32).toInt = -1 := by decide
  refine WP.aloadN d2_0 rfl rfl (pc' := 1) rfl ?_
  refine WP.aloadN d2_1 rfl rfl (pc' := 2) rfl ?_
  refine WP.aconstNull d2_2 (pc' := 3) rfl ?_
  refine WP.iconst d2_3 (z := (-1 : Int32)) rfl (pc' := 4) rfl ?_
  refine WP.callI (a := q) (y := (⟨"com/example/singlet/singlet/network/Domain", "<init>", "([ILcom/example/singlet/singlet/network/Trail;I)V"⟩ : MethodName)) (By := B3) (as := [(.ref a), .null, (.int (-1 : Int32))]) (rest := []) d2_4 (w13 hw) (w14 hw) (w9 hw) (w15 hw) rfl rfl (by decide) (c2_0 hw q a  g_q O_q A_a E_a hs n_qa) pd_0 rfl rfl rfl (by decide) (Nat.le_of_ble_eq_true rfl) (by decide) (by decide) (pc' := 7) rfl ?_
  rintro _ h1 ⟨rfl, hQ⟩
  show WP _ _ _ _ _ _ _ _ _ _ []
  exact WP.ret0 d2_7 rfl (by decide) (by decide) ⟨rfl, hQ⟩
theorem fal_0 {l : Launch} {Z : State} {a0 : Array Value} (hw : HW Z a0) {n0 : Nat} {h : Heap} (q va : Addr) (t : Int64)  (z1 z2 z3 z4 z5 z6 z7 z8 : Value) (O_q : Ob Z h q "com/example/singlet/singlet/network/Domain" L_DM [.ref va, z1, z2, z3, z4, z5, z6, z7, z8]) (A_va : Av Z h va .int []) (hs : True) : OMet l (⟨"com/example/singlet/singlet/network/Domain", "firstAtLeast", "(J)I"⟩ : MethodName) B5 Z n0 #[(.ref q), (.long t)] h (fun v h' => h = h' ∧ ∃ r : Int32, v = some (.int r) ∧ 0 ≤ r.toInt ∧ r.toInt ≤ 0 ∧ True) := by
  refine OMet.of_wp (ls0 := #[.val (.ref q), .val (.long t), .second, .unset, .unset, .unset]) pl5 rfl rfl (fun m => own_entry 3 rfl rfl) ?_
  have k32_0 : (0 : Int32).toInt = 0 := by decide
  refine WP.iconst d5_0 (z := (0 : Int32)) rfl (pc' := 1) rfl ?_
  refine WP.istoreN d5_1 (pc' := 2) rfl (ls' := #[.val (.ref q), .val (.long t), .second, .val (.int (0 : Int32)), .unset, .unset]) rfl ?_
  refine WP.aloadN d5_2 rfl rfl (pc' := 3) rfl ?_
  refine WP.getf (i := 0) (v := (.ref va)) d5_3 (w28 hw) O_q rfl rfl (pc' := 6) rfl ?_
  refine WP.alen d5_6 A_va (k := (0 : Int32)) rfl (pc' := 7) rfl ?_
  refine WP.istore d5_7 (pc' := 9) rfl (ls' := #[.val (.ref q), .val (.long t), .second, .val (.int (0 : Int32)), .val (.int (0 : Int32)), .unset]) rfl ?_
  refine WP.iloadN d5_9 rfl (pc' := 10) rfl ?_
  refine WP.iload d5_10 rfl (pc' := 12) rfl ?_
  refine WP.icmpGe d5_12 (tgt := 51) (by decide) (pc' := 15) rfl (fun c12 => ?_) (fun c12 => ?_)
  ·
    refine WP.iloadN d5_51 rfl (pc' := 52) rfl ?_
    exact WP.retI d5_52 rfl (by decide) (by decide) ⟨rfl, _, rfl, by omega, by omega, trivial⟩
  exfalso; omega
theorem c2_1 {l : Launch} {Z : State} {a0 : Array Value} (hw : HW Z a0) {n0 : Nat} {h : Heap} (q a : Addr) (y0 : Int32) (g_q : n0 ≤ q) (O_q : Ob Z h q "com/example/singlet/singlet/network/Domain" L_DM [.null, .null, .null, .null, .null, (.int 0), (.int 0), .null, (.int 0)]) (A_a : Av Z h a .int [(.int y0)]) (E_a : Exa Z h a "[I") (hs : True) (n_qa : q ≠ a) : OMet l (⟨"com/example/singlet/singlet/network/Domain", "<init>", "([ILcom/example/singlet/singlet/network/Trail;I)V"⟩ : MethodName) B3 Z n0 #[(.ref q), (.ref a), .null, (.int (-1 : Int32))] h (fun v h' => v = none ∧ ∃ (va : Addr) (z1 z2 z3 z4 z5 z6 z7 z8 : Value), Ob Z h' q "com/example/singlet/singlet/network/Domain" L_DM [.ref va, z1, z2, z3, z4, z5, z6, z7, z8] ∧ Av Z h' va .int [(.int y0)]) := by
  refine OMet.of_wp (ls0 := #[.val (.ref q), .val (.ref a), .val .null, .val (.int (-1 : Int32)), .unset, .unset]) pl3 rfl rfl (fun m => own_entry 2 rfl rfl) ?_
  have k32_m1 : (-1 : Int32).toInt = -1 := by decide
  have k32_0 : (0 : Int32).toInt = 0 := by decide
  have k32_1 : (1 : Int32).toInt = 1 := by decide
  refine WP.aloadN d3_0 rfl rfl (pc' := 1) rfl ?_
  refine WP.initO (a := q) d3_1 (w16 hw) (w17 hw) (w18 hw) rfl (by decide) (Nat.le_of_ble_eq_true rfl) (pc' := 4) rfl ?_
  refine WP.iconst d3_4 (z := (1 : Int32)) rfl (pc' := 5) rfl ?_
  refine WP.istore d3_5 (pc' := 7) rfl (ls' := #[.val (.ref q), .val (.ref a), .val .null, .val (.int (-1 : Int32)), .val (.int (1 : Int32)), .unset]) rfl ?_
  refine WP.iload d3_7 rfl (pc' := 9) rfl ?_
  refine WP.aloadN d3_9 rfl rfl (pc' := 10) rfl ?_
  refine WP.alen d3_10 A_a (k := (1 : Int32)) rfl (pc' := 11) rfl ?_
  refine WP.icmpGe d3_11 (tgt := 58) (by decide) (pc' := 14) rfl (fun c11 => ?_) (fun c11 => ?_)
  ·
    refine WP.aloadN d3_58 rfl rfl (pc' := 59) rfl ?_
    refine WP.alen d3_59 A_a (k := (1 : Int32)) rfl (pc' := 60) rfl ?_
    refine WP.istore d3_60 (pc' := 62) rfl (ls' := #[.val (.ref q), .val (.ref a), .val .null, .val (.int (-1 : Int32)), .val (.int (1 : Int32)), .unset]) rfl ?_
    refine WP.aloadN d3_62 rfl rfl (pc' := 63) rfl ?_
    refine WP.aloadN d3_63 rfl rfl (pc' := 64) rfl ?_
    refine WP.aclone (ad := "[I") d3_64 (w19 hw) (w20 hw) (w24 hw) (w22 hw) (w23 hw) (w25 hw) A_a E_a (fun q v hv => by have hm := List.mem_of_getElem? hv; simp only [List.mem_cons, List.not_mem_nil, or_false] at hm; rcases hm with rfl <;> rfl) rfl (by decide) (Nat.le_of_ble_eq_true rfl) 1 (Nat.le_of_ble_eq_true rfl) (by decide) (by decide) (pc' := 67) rfl ?_
    intro va h1 eb_va g_va K2 A_va E_va
    have lt_q_va : q < va := by rw [eb_va]; exact O_q.lt
    have lt_a_va : a < va := by rw [eb_va]; exact A_a.lt
    replace E_a := E_a.keep K2
    replace O_q := O_q.keep K2 own_nil
    replace A_a := A_a.keep K2 own_nil
    refine WP.cast d3_67 (w26 hw) (Ins.self E_va) (pc' := 70) rfl ?_
    refine WP.putf (i := 0) d3_70 (w28 hw) O_q (lay_DM hw) (by decide) rfl (Or.inr ⟨(w29 hw), rfl, rfl⟩) (w8 hw) (t := (.array .int)) (by decide) rfl rfl g_q (pc' := 73) rfl ?_
    intro h3 K4 O_n
    replace E_a := E_a.keep K4
    replace E_va := E_va.keep K4
    replace A_a := A_a.keep K4 (own_cons (by first | assumption | exact Ne.symm (by assumption) | exact Nat.ne_of_lt (by assumption) | exact Nat.ne_of_gt (by assumption)) own_nil)
    replace A_va := A_va.keep K4 (own_cons (by first | assumption | exact Ne.symm (by assumption) | exact Nat.ne_of_lt (by assumption) | exact Nat.ne_of_gt (by assumption)) own_nil)
    replace O_q : Ob Z h3 q "com/example/singlet/singlet/network/Domain" L_DM [(.ref va), .null, .null, .null, .null, (.int 0), (.int 0), .null, (.int 0)] := O_n
    clear O_n
    refine WP.aloadN d3_73 rfl rfl (pc' := 74) rfl ?_
    refine WP.iload d3_74 rfl (pc' := 76) rfl ?_
    refine WP.newarrE d3_76 (w30 hw) (k := 1) rfl 1 (by decide) (by decide) (by decide) (by decide) (ad := "[Z") (by decide) (pc' := 78) rfl ?_
    intro pr h5 eb_pr g_pr K6 A_pr E_pr
    replace A_pr : Av Z h5 pr .boolean [.int 0] := A_pr
    have lt_q_pr : q < pr := by rw [eb_pr]; exact O_q.lt
    have lt_a_pr : a < pr := by rw [eb_pr]; exact A_a.lt
    have lt_va_pr : va < pr := by rw [eb_pr]; exact A_va.lt
    replace E_a := E_a.keep K6
    replace E_va := E_va.keep K6
    replace O_q := O_q.keep K6 own_nil
    replace A_a := A_a.keep K6 own_nil
    replace A_va := A_va.keep K6 own_nil
    refine WP.putf (i := 1) d3_78 (w31 hw) O_q (lay_DM hw) (by decide) rfl (Or.inr ⟨(w32 hw), rfl, rfl⟩) (w8 hw) (t := (.array .boolean)) (by decide) rfl rfl g_q (pc' := 81) rfl ?_
    intro h7 K8 O_n
    replace E_a := E_a.keep K8
    replace E_va := E_va.keep K8
    replace E_pr := E_pr.keep K8
    replace A_a := A_a.keep K8 (own_cons (by first | assumption | exact Ne.symm (by assumption) | exact Nat.ne_of_lt (by assumption) | exact Nat.ne_of_gt (by assumption)) own_nil)
    replace A_va := A_va.keep K8 (own_cons (by first | assumption | exact Ne.symm (by assumption) | exact Nat.ne_of_lt (by assumption) | exact Nat.ne_of_gt (by assumption)) own_nil)
    replace A_pr := A_pr.keep K8 (own_cons (by first | assumption | exact Ne.symm (by assumption) | exact Nat.ne_of_lt (by assumption) | exact Nat.ne_of_gt (by assumption)) own_nil)
    replace O_q : Ob Z h7 q "com/example/singlet/singlet/network/Domain" L_DM [(.ref va), (.ref pr), .null, .null, .null, (.int 0), (.int 0), .null, (.int 0)] := O_n
    clear O_n
    refine WP.aloadN d3_81 rfl rfl (pc' := 82) rfl ?_
    refine WP.iload d3_82 rfl (pc' := 84) rfl ?_
    refine WP.newarrE d3_84 (w2 hw) (k := 1) rfl 1 (by decide) (by decide) (by decide) (by decide) (ad := "[I") (by decide) (pc' := 86) rfl ?_
    intro nx h9 eb_nx g_nx K10 A_nx E_nx
    replace A_nx : Av Z h9 nx .int [.int 0] := A_nx
    have lt_q_nx : q < nx := by rw [eb_nx]; exact O_q.lt
    have lt_a_nx : a < nx := by rw [eb_nx]; exact A_a.lt
    have lt_va_nx : va < nx := by rw [eb_nx]; exact A_va.lt
    have lt_pr_nx : pr < nx := by rw [eb_nx]; exact A_pr.lt
    replace E_a := E_a.keep K10
    replace E_va := E_va.keep K10
    replace E_pr := E_pr.keep K10
    replace O_q := O_q.keep K10 own_nil
    replace A_a := A_a.keep K10 own_nil
    replace A_va := A_va.keep K10 own_nil
    replace A_pr := A_pr.keep K10 own_nil
    refine WP.putf (i := 2) d3_86 (w33 hw) O_q (lay_DM hw) (by decide) rfl (Or.inr ⟨(w34 hw), rfl, rfl⟩) (w8 hw) (t := (.array .int)) (by decide) rfl rfl g_q (pc' := 89) rfl ?_
    intro h11 K12 O_n
    replace E_a := E_a.keep K12
    replace E_va := E_va.keep K12
    replace E_pr := E_pr.keep K12
    replace E_nx := E_nx.keep K12
    replace A_a := A_a.keep K12 (own_cons (by first | assumption | exact Ne.symm (by assumption) | exact Nat.ne_of_lt (by assumption) | exact Nat.ne_of_gt (by assumption)) own_nil)
    replace A_va := A_va.keep K12 (own_cons (by first | assumption | exact Ne.symm (by assumption) | exact Nat.ne_of_lt (by assumption) | exact Nat.ne_of_gt (by assumption)) own_nil)
    replace A_pr := A_pr.keep K12 (own_cons (by first | assumption | exact Ne.symm (by assumption) | exact Nat.ne_of_lt (by assumption) | exact Nat.ne_of_gt (by assumption)) own_nil)
    replace A_nx := A_nx.keep K12 (own_cons (by first | assumption | exact Ne.symm (by assumption) | exact Nat.ne_of_lt (by assumption) | exact Nat.ne_of_gt (by assumption)) own_nil)
    replace O_q : Ob Z h11 q "com/example/singlet/singlet/network/Domain" L_DM [(.ref va), (.ref pr), (.ref nx), .null, .null, (.int 0), (.int 0), .null, (.int 0)] := O_n
    clear O_n
    refine WP.aloadN d3_89 rfl rfl (pc' := 90) rfl ?_
    refine WP.iload d3_90 rfl (pc' := 92) rfl ?_
    refine WP.newarrE d3_92 (w2 hw) (k := 1) rfl 1 (by decide) (by decide) (by decide) (by decide) (ad := "[I") (by decide) (pc' := 94) rfl ?_
    intro pv h13 eb_pv g_pv K14 A_pv E_pv
    replace A_pv : Av Z h13 pv .int [.int 0] := A_pv
    have lt_q_pv : q < pv := by rw [eb_pv]; exact O_q.lt
    have lt_a_pv : a < pv := by rw [eb_pv]; exact A_a.lt
    have lt_va_pv : va < pv := by rw [eb_pv]; exact A_va.lt
    have lt_pr_pv : pr < pv := by rw [eb_pv]; exact A_pr.lt
    have lt_nx_pv : nx < pv := by rw [eb_pv]; exact A_nx.lt
    replace E_a := E_a.keep K14
    replace E_va := E_va.keep K14
    replace E_pr := E_pr.keep K14
    replace E_nx := E_nx.keep K14
    replace O_q := O_q.keep K14 own_nil
    replace A_a := A_a.keep K14 own_nil
    replace A_va := A_va.keep K14 own_nil
    replace A_pr := A_pr.keep K14 own_nil
    replace A_nx := A_nx.keep K14 own_nil
    refine WP.putf (i := 3) d3_94 (w35 hw) O_q (lay_DM hw) (by decide) rfl (Or.inr ⟨(w36 hw), rfl, rfl⟩) (w8 hw) (t := (.array .int)) (by decide) rfl rfl g_q (pc' := 97) rfl ?_
    intro h15 K16 O_n
    replace E_a := E_a.keep K16
    replace E_va := E_va.keep K16
    replace E_pr := E_pr.keep K16
    replace E_nx := E_nx.keep K16
    replace E_pv := E_pv.keep K16
    replace A_a := A_a.keep K16 (own_cons (by first | assumption | exact Ne.symm (by assumption) | exact Nat.ne_of_lt (by assumption) | exact Nat.ne_of_gt (by assumption)) own_nil)
    replace A_va := A_va.keep K16 (own_cons (by first | assumption | exact Ne.symm (by assumption) | exact Nat.ne_of_lt (by assumption) | exact Nat.ne_of_gt (by assumption)) own_nil)
    replace A_pr := A_pr.keep K16 (own_cons (by first | assumption | exact Ne.symm (by assumption) | exact Nat.ne_of_lt (by assumption) | exact Nat.ne_of_gt (by assumption)) own_nil)
    replace A_nx := A_nx.keep K16 (own_cons (by first | assumption | exact Ne.symm (by assumption) | exact Nat.ne_of_lt (by assumption) | exact Nat.ne_of_gt (by assumption)) own_nil)
    replace A_pv := A_pv.keep K16 (own_cons (by first | assumption | exact Ne.symm (by assumption) | exact Nat.ne_of_lt (by assumption) | exact Nat.ne_of_gt (by assumption)) own_nil)
    replace O_q : Ob Z h15 q "com/example/singlet/singlet/network/Domain" L_DM [(.ref va), (.ref pr), (.ref nx), (.ref pv), .null, (.int 0), (.int 0), .null, (.int 0)] := O_n
    clear O_n
    refine WP.aloadN d3_97 rfl rfl (pc' := 98) rfl ?_
    refine WP.iload d3_98 rfl (pc' := 100) rfl ?_
    refine WP.newarrE d3_100 (w2 hw) (k := 1) rfl 1 (by decide) (by decide) (by decide) (by decide) (ad := "[I") (by decide) (pc' := 102) rfl ?_
    intro rm h17 eb_rm g_rm K18 A_rm E_rm
    replace A_rm : Av Z h17 rm .int [.int 0] := A_rm
    have lt_q_rm : q < rm := by rw [eb_rm]; exact O_q.lt
    have lt_a_rm : a < rm := by rw [eb_rm]; exact A_a.lt
    have lt_va_rm : va < rm := by rw [eb_rm]; exact A_va.lt
    have lt_pr_rm : pr < rm := by rw [eb_rm]; exact A_pr.lt
    have lt_nx_rm : nx < rm := by rw [eb_rm]; exact A_nx.lt
    have lt_pv_rm : pv < rm := by rw [eb_rm]; exact A_pv.lt
    replace E_a := E_a.keep K18
    replace E_va := E_va.keep K18
    replace E_pr := E_pr.keep K18
    replace E_nx := E_nx.keep K18
    replace E_pv := E_pv.keep K18
    replace O_q := O_q.keep K18 own_nil
    replace A_a := A_a.keep K18 own_nil
    replace A_va := A_va.keep K18 own_nil
    replace A_pr := A_pr.keep K18 own_nil
    replace A_nx := A_nx.keep K18 own_nil
    replace A_pv := A_pv.keep K18 own_nil
    refine WP.putf (i := 4) d3_102 (w37 hw) O_q (lay_DM hw) (by decide) rfl (Or.inr ⟨(w38 hw), rfl, rfl⟩) (w8 hw) (t := (.array .int)) (by decide) rfl rfl g_q (pc' := 105) rfl ?_
    intro h19 K20 O_n
    replace E_a := E_a.keep K20
    replace E_va := E_va.keep K20
    replace E_pr := E_pr.keep K20
    replace E_nx := E_nx.keep K20
    replace E_pv := E_pv.keep K20
    replace E_rm := E_rm.keep K20
    replace A_a := A_a.keep K20 (own_cons (by first | assumption | exact Ne.symm (by assumption) | exact Nat.ne_of_lt (by assumption) | exact Nat.ne_of_gt (by assumption)) own_nil)
    replace A_va := A_va.keep K20 (own_cons (by first | assumption | exact Ne.symm (by assumption) | exact Nat.ne_of_lt (by assumption) | exact Nat.ne_of_gt (by assumption)) own_nil)
    replace A_pr := A_pr.keep K20 (own_cons (by first | assumption | exact Ne.symm (by assumption) | exact Nat.ne_of_lt (by assumption) | exact Nat.ne_of_gt (by assumption)) own_nil)
    replace A_nx := A_nx.keep K20 (own_cons (by first | assumption | exact Ne.symm (by assumption) | exact Nat.ne_of_lt (by assumption) | exact Nat.ne_of_gt (by assumption)) own_nil)
    replace A_pv := A_pv.keep K20 (own_cons (by first | assumption | exact Ne.symm (by assumption) | exact Nat.ne_of_lt (by assumption) | exact Nat.ne_of_gt (by assumption)) own_nil)
    replace A_rm := A_rm.keep K20 (own_cons (by first | assumption | exact Ne.symm (by assumption) | exact Nat.ne_of_lt (by assumption) | exact Nat.ne_of_gt (by assumption)) own_nil)
    replace O_q : Ob Z h19 q "com/example/singlet/singlet/network/Domain" L_DM [(.ref va), (.ref pr), (.ref nx), (.ref pv), (.ref rm), (.int 0), (.int 0), .null, (.int 0)] := O_n
    clear O_n
    refine WP.iconst d3_105 (z := (0 : Int32)) rfl (pc' := 106) rfl ?_
    refine WP.istore d3_106 (pc' := 108) rfl (ls' := #[.val (.ref q), .val (.ref a), .val .null, .val (.int (-1 : Int32)), .val (.int (1 : Int32)), .val (.int (0 : Int32))]) rfl ?_
    refine WP.iload d3_108 rfl (pc' := 110) rfl ?_
    refine WP.iload d3_110 rfl (pc' := 112) rfl ?_
    refine WP.icmpGe d3_112 (tgt := 164) (by decide) (pc' := 115) rfl (fun c112 => ?_) (fun c112 => ?_)
    · exfalso; omega
    refine WP.aloadN d3_115 rfl rfl (pc' := 116) rfl ?_
    refine WP.getf (i := 1) (v := (.ref pr)) d3_116 (w31 hw) O_q rfl rfl (pc' := 119) rfl ?_
    refine WP.iload d3_119 rfl (pc' := 121) rfl ?_
    refine WP.iconst d3_121 (z := (1 : Int32)) rfl (pc' := 122) rfl ?_
    refine WP.bastoreZ 0 d3_122 A_pr rfl (Nat.le_of_ble_eq_true rfl) g_pr (pc' := 123) rfl ?_
    intro h21 K22 A_n
    replace E_a := E_a.keep K22
    replace E_va := E_va.keep K22
    replace E_pr := E_pr.keep K22
    replace E_nx := E_nx.keep K22
    replace E_pv := E_pv.keep K22
    replace E_rm := E_rm.keep K22
    replace O_q := O_q.keep K22 (own_cons (by first | assumption | exact Ne.symm (by assumption) | exact Nat.ne_of_lt (by assumption) | exact Nat.ne_of_gt (by assumption)) own_nil)
    replace A_a := A_a.keep K22 (own_cons (by first | assumption | exact Ne.symm (by assumption) | exact Nat.ne_of_lt (by assumption) | exact Nat.ne_of_gt (by assumption)) own_nil)
    replace A_va := A_va.keep K22 (own_cons (by first | assumption | exact Ne.symm (by assumption) | exact Nat.ne_of_lt (by assumption) | exact Nat.ne_of_gt (by assumption)) own_nil)
    replace A_nx := A_nx.keep K22 (own_cons (by first | assumption | exact Ne.symm (by assumption) | exact Nat.ne_of_lt (by assumption) | exact Nat.ne_of_gt (by assumption)) own_nil)
    replace A_pv := A_pv.keep K22 (own_cons (by first | assumption | exact Ne.symm (by assumption) | exact Nat.ne_of_lt (by assumption) | exact Nat.ne_of_gt (by assumption)) own_nil)
    replace A_rm := A_rm.keep K22 (own_cons (by first | assumption | exact Ne.symm (by assumption) | exact Nat.ne_of_lt (by assumption) | exact Nat.ne_of_gt (by assumption)) own_nil)
    replace A_pr : Av Z h21 pr .boolean [(.int (nar .boolean (1 : Int32)))] := A_n
    clear A_n
    refine WP.aloadN d3_123 rfl rfl (pc' := 124) rfl ?_
    refine WP.getf (i := 2) (v := (.ref nx)) d3_124 (w33 hw) O_q rfl rfl (pc' := 127) rfl ?_
    refine WP.iload d3_127 rfl (pc' := 129) rfl ?_
    refine WP.iload d3_129 rfl (pc' := 131) rfl ?_
    refine WP.iconst d3_131 (z := (1 : Int32)) rfl (pc' := 132) rfl ?_
    refine WP.iadd d3_132 (pc' := 133) rfl ?_
    rw [show (((0 : Int32) + (1 : Int32)) : Int32) = (1 : Int32) from by decide]
    refine WP.iload d3_133 rfl (pc' := 135) rfl ?_
    refine WP.icmpGe d3_135 (tgt := 145) (by decide) (pc' := 138) rfl (fun c135 => ?_) (fun c135 => ?_)
    ·
      refine WP.iconst d3_145 (z := (-1 : Int32)) rfl (pc' := 146) rfl ?_
      refine WP.iastore 0 d3_146 A_nx rfl (Nat.le_of_ble_eq_true rfl) g_nx (pc' := 147) rfl ?_
      intro h23 K24 A_n
      replace E_a := E_a.keep K24
      replace E_va := E_va.keep K24
      replace E_pr := E_pr.keep K24
      replace E_nx := E_nx.keep K24
      replace E_pv := E_pv.keep K24
      replace E_rm := E_rm.keep K24
      replace O_q := O_q.keep K24 (own_cons (by first | assumption | exact Ne.symm (by assumption) | exact Nat.ne_of_lt (by assumption) | exact Nat.ne_of_gt (by assumption)) own_nil)
      replace A_a := A_a.keep K24 (own_cons (by first | assumption | exact Ne.symm (by assumption) | exact Nat.ne_of_lt (by assumption) | exact Nat.ne_of_gt (by assumption)) own_nil)
      replace A_va := A_va.keep K24 (own_cons (by first | assumption | exact Ne.symm (by assumption) | exact Nat.ne_of_lt (by assumption) | exact Nat.ne_of_gt (by assumption)) own_nil)
      replace A_pr := A_pr.keep K24 (own_cons (by first | assumption | exact Ne.symm (by assumption) | exact Nat.ne_of_lt (by assumption) | exact Nat.ne_of_gt (by assumption)) own_nil)
      replace A_pv := A_pv.keep K24 (own_cons (by first | assumption | exact Ne.symm (by assumption) | exact Nat.ne_of_lt (by assumption) | exact Nat.ne_of_gt (by assumption)) own_nil)
      replace A_rm := A_rm.keep K24 (own_cons (by first | assumption | exact Ne.symm (by assumption) | exact Nat.ne_of_lt (by assumption) | exact Nat.ne_of_gt (by assumption)) own_nil)
      replace A_nx : Av Z h23 nx .int [(.int (-1 : Int32))] := A_n
      clear A_n
      refine WP.aloadN d3_147 rfl rfl (pc' := 148) rfl ?_
      refine WP.getf (i := 3) (v := (.ref pv)) d3_148 (w35 hw) O_q rfl rfl (pc' := 151) rfl ?_
      refine WP.iload d3_151 rfl (pc' := 153) rfl ?_
      refine WP.iload d3_153 rfl (pc' := 155) rfl ?_
      refine WP.iconst d3_155 (z := (1 : Int32)) rfl (pc' := 156) rfl ?_
      refine WP.isub d3_156 (pc' := 157) rfl ?_
      rw [show (((0 : Int32) - (1 : Int32)) : Int32) = (-1 : Int32) from by decide]
      refine WP.iastore 0 d3_157 A_pv rfl (Nat.le_of_ble_eq_true rfl) g_pv (pc' := 158) rfl ?_
      intro h25 K26 A_n
      replace E_a := E_a.keep K26
      replace E_va := E_va.keep K26
      replace E_pr := E_pr.keep K26
      replace E_nx := E_nx.keep K26
      replace E_pv := E_pv.keep K26
      replace E_rm := E_rm.keep K26
      replace O_q := O_q.keep K26 (own_cons (by first | assumption | exact Ne.symm (by assumption) | exact Nat.ne_of_lt (by assumption) | exact Nat.ne_of_gt (by assumption)) own_nil)
      replace A_a := A_a.keep K26 (own_cons (by first | assumption | exact Ne.symm (by assumption) | exact Nat.ne_of_lt (by assumption) | exact Nat.ne_of_gt (by assumption)) own_nil)
      replace A_va := A_va.keep K26 (own_cons (by first | assumption | exact Ne.symm (by assumption) | exact Nat.ne_of_lt (by assumption) | exact Nat.ne_of_gt (by assumption)) own_nil)
      replace A_pr := A_pr.keep K26 (own_cons (by first | assumption | exact Ne.symm (by assumption) | exact Nat.ne_of_lt (by assumption) | exact Nat.ne_of_gt (by assumption)) own_nil)
      replace A_nx := A_nx.keep K26 (own_cons (by first | assumption | exact Ne.symm (by assumption) | exact Nat.ne_of_lt (by assumption) | exact Nat.ne_of_gt (by assumption)) own_nil)
      replace A_rm := A_rm.keep K26 (own_cons (by first | assumption | exact Ne.symm (by assumption) | exact Nat.ne_of_lt (by assumption) | exact Nat.ne_of_gt (by assumption)) own_nil)
      replace A_pv : Av Z h25 pv .int [(.int (-1 : Int32))] := A_n
      clear A_n
      refine WP.iinc d3_158 (pc' := 161) rfl rfl (y := (1 : Int32)) (by decide) (ls' := #[.val (.ref q), .val (.ref a), .val .null, .val (.int (-1 : Int32)), .val (.int (1 : Int32)), .val (.int (1 : Int32))]) rfl ?_
      refine WP.goto d3_161 (pc' := 108) (by decide) ?_
      refine WP.iload d3_108 rfl (pc' := 110) rfl ?_
      refine WP.iload d3_110 rfl (pc' := 112) rfl ?_
      refine WP.icmpGe d3_112 (tgt := 164) (by decide) (pc' := 115) rfl (fun c112 => ?_) (fun c112 => ?_)
      ·
        refine WP.aloadN d3_164 rfl rfl (pc' := 165) rfl ?_
        refine WP.iload d3_165 rfl (pc' := 167) rfl ?_
        refine WP.ifLe d3_167 (tgt := 174) (by decide) (pc' := 170) rfl (fun c167 => ?_) (fun c167 => ?_)
        · exfalso; omega
        refine WP.iconst d3_170 (z := (0 : Int32)) rfl (pc' := 171) rfl ?_
        refine WP.goto d3_171 (pc' := 175) (by decide) ?_
        refine WP.putf (i := 5) d3_175 (w39 hw) O_q (lay_DM hw) (by decide) rfl (Or.inl (w40 hw)) (w8 hw) (t := .int) (by decide) rfl rfl g_q (pc' := 178) rfl ?_
        intro h27 K28 O_n
        replace E_a := E_a.keep K28
        replace E_va := E_va.keep K28
        replace E_pr := E_pr.keep K28
        replace E_nx := E_nx.keep K28
        replace E_pv := E_pv.keep K28
        replace E_rm := E_rm.keep K28
        replace A_a := A_a.keep K28 (own_cons (by first | assumption | exact Ne.symm (by assumption) | exact Nat.ne_of_lt (by assumption) | exact Nat.ne_of_gt (by assumption)) own_nil)
        replace A_va := A_va.keep K28 (own_cons (by first | assumption | exact Ne.symm (by assumption) | exact Nat.ne_of_lt (by assumption) | exact Nat.ne_of_gt (by assumption)) own_nil)
        replace A_pr := A_pr.keep K28 (own_cons (by first | assumption | exact Ne.symm (by assumption) | exact Nat.ne_of_lt (by assumption) | exact Nat.ne_of_gt (by assumption)) own_nil)
        replace A_nx := A_nx.keep K28 (own_cons (by first | assumption | exact Ne.symm (by assumption) | exact Nat.ne_of_lt (by assumption) | exact Nat.ne_of_gt (by assumption)) own_nil)
        replace A_pv := A_pv.keep K28 (own_cons (by first | assumption | exact Ne.symm (by assumption) | exact Nat.ne_of_lt (by assumption) | exact Nat.ne_of_gt (by assumption)) own_nil)
        replace A_rm := A_rm.keep K28 (own_cons (by first | assumption | exact Ne.symm (by assumption) | exact Nat.ne_of_lt (by assumption) | exact Nat.ne_of_gt (by assumption)) own_nil)
        replace O_q : Ob Z h27 q "com/example/singlet/singlet/network/Domain" L_DM [(.ref va), (.ref pr), (.ref nx), (.ref pv), (.ref rm), (.int (0 : Int32)), (.int 0), .null, (.int 0)] := O_n
        clear O_n
        refine WP.aloadN d3_178 rfl rfl (pc' := 179) rfl ?_
        refine WP.iload d3_179 rfl (pc' := 181) rfl ?_
        refine WP.iconst d3_181 (z := (1 : Int32)) rfl (pc' := 182) rfl ?_
        refine WP.isub d3_182 (pc' := 183) rfl ?_
        rw [show (((1 : Int32) - (1 : Int32)) : Int32) = (0 : Int32) from by decide]
        refine WP.putf (i := 6) d3_183 (w41 hw) O_q (lay_DM hw) (by decide) rfl (Or.inl (w42 hw)) (w8 hw) (t := .int) (by decide) rfl rfl g_q (pc' := 186) rfl ?_
        intro h29 K30 O_n
        replace E_a := E_a.keep K30
        replace E_va := E_va.keep K30
        replace E_pr := E_pr.keep K30
        replace E_nx := E_nx.keep K30
        replace E_pv := E_pv.keep K30
        replace E_rm := E_rm.keep K30
        replace A_a := A_a.keep K30 (own_cons (by first | assumption | exact Ne.symm (by assumption) | exact Nat.ne_of_lt (by assumption) | exact Nat.ne_of_gt (by assumption)) own_nil)
        replace A_va := A_va.keep K30 (own_cons (by first | assumption | exact Ne.symm (by assumption) | exact Nat.ne_of_lt (by assumption) | exact Nat.ne_of_gt (by assumption)) own_nil)
        replace A_pr := A_pr.keep K30 (own_cons (by first | assumption | exact Ne.symm (by assumption) | exact Nat.ne_of_lt (by assumption) | exact Nat.ne_of_gt (by assumption)) own_nil)
        replace A_nx := A_nx.keep K30 (own_cons (by first | assumption | exact Ne.symm (by assumption) | exact Nat.ne_of_lt (by assumption) | exact Nat.ne_of_gt (by assumption)) own_nil)
        replace A_pv := A_pv.keep K30 (own_cons (by first | assumption | exact Ne.symm (by assumption) | exact Nat.ne_of_lt (by assumption) | exact Nat.ne_of_gt (by assumption)) own_nil)
        replace A_rm := A_rm.keep K30 (own_cons (by first | assumption | exact Ne.symm (by assumption) | exact Nat.ne_of_lt (by assumption) | exact Nat.ne_of_gt (by assumption)) own_nil)
        replace O_q : Ob Z h29 q "com/example/singlet/singlet/network/Domain" L_DM [(.ref va), (.ref pr), (.ref nx), (.ref pv), (.ref rm), (.int (0 : Int32)), (.int (0 : Int32)), .null, (.int 0)] := O_n
        clear O_n
        refine WP.aloadN d3_186 rfl rfl (pc' := 187) rfl ?_
        refine WP.aloadN d3_187 rfl rfl (pc' := 188) rfl ?_
        refine WP.putf (i := 7) d3_188 (w43 hw) O_q (lay_DM hw) (by decide) rfl (Or.inr ⟨(w44 hw), rfl, rfl⟩) (w8 hw) (t := (.object "com/example/singlet/singlet/network/Trail")) (by decide) rfl rfl g_q (pc' := 191) rfl ?_
        intro h31 K32 O_n
        replace E_a := E_a.keep K32
        replace E_va := E_va.keep K32
        replace E_pr := E_pr.keep K32
        replace E_nx := E_nx.keep K32
        replace E_pv := E_pv.keep K32
        replace E_rm := E_rm.keep K32
        replace A_a := A_a.keep K32 (own_cons (by first | assumption | exact Ne.symm (by assumption) | exact Nat.ne_of_lt (by assumption) | exact Nat.ne_of_gt (by assumption)) own_nil)
        replace A_va := A_va.keep K32 (own_cons (by first | assumption | exact Ne.symm (by assumption) | exact Nat.ne_of_lt (by assumption) | exact Nat.ne_of_gt (by assumption)) own_nil)
        replace A_pr := A_pr.keep K32 (own_cons (by first | assumption | exact Ne.symm (by assumption) | exact Nat.ne_of_lt (by assumption) | exact Nat.ne_of_gt (by assumption)) own_nil)
        replace A_nx := A_nx.keep K32 (own_cons (by first | assumption | exact Ne.symm (by assumption) | exact Nat.ne_of_lt (by assumption) | exact Nat.ne_of_gt (by assumption)) own_nil)
        replace A_pv := A_pv.keep K32 (own_cons (by first | assumption | exact Ne.symm (by assumption) | exact Nat.ne_of_lt (by assumption) | exact Nat.ne_of_gt (by assumption)) own_nil)
        replace A_rm := A_rm.keep K32 (own_cons (by first | assumption | exact Ne.symm (by assumption) | exact Nat.ne_of_lt (by assumption) | exact Nat.ne_of_gt (by assumption)) own_nil)
        replace O_q : Ob Z h31 q "com/example/singlet/singlet/network/Domain" L_DM [(.ref va), (.ref pr), (.ref nx), (.ref pv), (.ref rm), (.int (0 : Int32)), (.int (0 : Int32)), .null, (.int 0)] := O_n
        clear O_n
        refine WP.aloadN d3_191 rfl rfl (pc' := 192) rfl ?_
        refine WP.iloadN d3_192 rfl (pc' := 193) rfl ?_
        refine WP.putf (i := 8) d3_193 (w45 hw) O_q (lay_DM hw) (by decide) rfl (Or.inr ⟨(w46 hw), rfl, rfl⟩) (w8 hw) (t := .int) (by decide) rfl rfl g_q (pc' := 196) rfl ?_
        intro h33 K34 O_n
        replace E_a := E_a.keep K34
        replace E_va := E_va.keep K34
        replace E_pr := E_pr.keep K34
        replace E_nx := E_nx.keep K34
        replace E_pv := E_pv.keep K34
        replace E_rm := E_rm.keep K34
        replace A_a := A_a.keep K34 (own_cons (by first | assumption | exact Ne.symm (by assumption) | exact Nat.ne_of_lt (by assumption) | exact Nat.ne_of_gt (by assumption)) own_nil)
        replace A_va := A_va.keep K34 (own_cons (by first | assumption | exact Ne.symm (by assumption) | exact Nat.ne_of_lt (by assumption) | exact Nat.ne_of_gt (by assumption)) own_nil)
        replace A_pr := A_pr.keep K34 (own_cons (by first | assumption | exact Ne.symm (by assumption) | exact Nat.ne_of_lt (by assumption) | exact Nat.ne_of_gt (by assumption)) own_nil)
        replace A_nx := A_nx.keep K34 (own_cons (by first | assumption | exact Ne.symm (by assumption) | exact Nat.ne_of_lt (by assumption) | exact Nat.ne_of_gt (by assumption)) own_nil)
        replace A_pv := A_pv.keep K34 (own_cons (by first | assumption | exact Ne.symm (by assumption) | exact Nat.ne_of_lt (by assumption) | exact Nat.ne_of_gt (by assumption)) own_nil)
        replace A_rm := A_rm.keep K34 (own_cons (by first | assumption | exact Ne.symm (by assumption) | exact Nat.ne_of_lt (by assumption) | exact Nat.ne_of_gt (by assumption)) own_nil)
        replace O_q : Ob Z h33 q "com/example/singlet/singlet/network/Domain" L_DM [(.ref va), (.ref pr), (.ref nx), (.ref pv), (.ref rm), (.int (0 : Int32)), (.int (0 : Int32)), .null, (.int (-1 : Int32))] := O_n
        clear O_n
        exact WP.ret0 d3_196 rfl (by decide) (by decide) ⟨rfl, va, _, _, _, _, _, _, _, _, O_q, A_va⟩
      exfalso; omega
    exfalso; omega
  exfalso; omega
theorem c1_1 {l : Launch} {Z : State} {a0 : Array Value} (hw : HW Z a0) {n0 : Nat} {h : Heap} (q a : Addr) (y0 : Int32) (g_q : n0 ≤ q) (O_q : Ob Z h q "com/example/singlet/singlet/network/Domain" L_DM [.null, .null, .null, .null, .null, (.int 0), (.int 0), .null, (.int 0)]) (A_a : Av Z h a .int [(.int y0)]) (E_a : Exa Z h a "[I") (hs : True) (n_qa : q ≠ a) : OMet l (⟨"com/example/singlet/singlet/network/Domain", "<init>", "([I)V"⟩ : MethodName) B2 Z n0 #[(.ref q), (.ref a)] h (fun v h' => v = none ∧ ∃ (va : Addr) (z1 z2 z3 z4 z5 z6 z7 z8 : Value), Ob Z h' q "com/example/singlet/singlet/network/Domain" L_DM [.ref va, z1, z2, z3, z4, z5, z6, z7, z8] ∧ Av Z h' va .int [(.int y0)]) := by
  refine OMet.of_wp (ls0 := #[.val (.ref q), .val (.ref a)]) pl2 rfl rfl (fun m => own_entry 0 rfl rfl) ?_
  have k32_m1 : (-1 : Int32).toInt = -1 := by decide
  refine WP.aloadN d2_0 rfl rfl (pc' := 1) rfl ?_
  refine WP.aloadN d2_1 rfl rfl (pc' := 2) rfl ?_
  refine WP.aconstNull d2_2 (pc' := 3) rfl ?_
  refine WP.iconst d2_3 (z := (-1 : Int32)) rfl (pc' := 4) rfl ?_
  refine WP.callI (a := q) (y := (⟨"com/example/singlet/singlet/network/Domain", "<init>", "([ILcom/example/singlet/singlet/network/Trail;I)V"⟩ : MethodName)) (By := B3) (as := [(.ref a), .null, (.int (-1 : Int32))]) (rest := []) d2_4 (w13 hw) (w14 hw) (w9 hw) (w15 hw) rfl rfl (by decide) (c2_1 hw q a y0 g_q O_q A_a E_a hs n_qa) pd_0 rfl rfl rfl (by decide) (Nat.le_of_ble_eq_true rfl) (by decide) (by decide) (pc' := 7) rfl ?_
  rintro _ h1 ⟨rfl, hQ⟩
  show WP _ _ _ _ _ _ _ _ _ _ []
  exact WP.ret0 d2_7 rfl (by decide) (by decide) ⟨rfl, hQ⟩
theorem fal_1 {l : Launch} {Z : State} {a0 : Array Value} (hw : HW Z a0) {n0 : Nat} {h : Heap} (q va : Addr) (t : Int64) (y0 : Int32) (z1 z2 z3 z4 z5 z6 z7 z8 : Value) (O_q : Ob Z h q "com/example/singlet/singlet/network/Domain" L_DM [.ref va, z1, z2, z3, z4, z5, z6, z7, z8]) (A_va : Av Z h va .int [(.int y0)]) (hs : True) : OMet l (⟨"com/example/singlet/singlet/network/Domain", "firstAtLeast", "(J)I"⟩ : MethodName) B5 Z n0 #[(.ref q), (.long t)] h (fun v h' => h = h' ∧ ∃ r : Int32, v = some (.int r) ∧ 0 ≤ r.toInt ∧ r.toInt ≤ 1 ∧ ((y0.toInt < t.toInt ∧ 0 < r.toInt) ∨ (t.toInt ≤ y0.toInt ∧ r.toInt ≤ 0))) := by
  refine OMet.of_wp (ls0 := #[.val (.ref q), .val (.long t), .second, .unset, .unset, .unset]) pl5 rfl rfl (fun m => own_entry 3 rfl rfl) ?_
  have c_y0 := c_i2l y0
  have k32_0 : (0 : Int32).toInt = 0 := by decide
  have k32_1 : (1 : Int32).toInt = 1 := by decide
  refine WP.iconst d5_0 (z := (0 : Int32)) rfl (pc' := 1) rfl ?_
  refine WP.istoreN d5_1 (pc' := 2) rfl (ls' := #[.val (.ref q), .val (.long t), .second, .val (.int (0 : Int32)), .unset, .unset]) rfl ?_
  refine WP.aloadN d5_2 rfl rfl (pc' := 3) rfl ?_
  refine WP.getf (i := 0) (v := (.ref va)) d5_3 (w28 hw) O_q rfl rfl (pc' := 6) rfl ?_
  refine WP.alen d5_6 A_va (k := (1 : Int32)) rfl (pc' := 7) rfl ?_
  refine WP.istore d5_7 (pc' := 9) rfl (ls' := #[.val (.ref q), .val (.long t), .second, .val (.int (0 : Int32)), .val (.int (1 : Int32)), .unset]) rfl ?_
  refine WP.iloadN d5_9 rfl (pc' := 10) rfl ?_
  refine WP.iload d5_10 rfl (pc' := 12) rfl ?_
  refine WP.icmpGe d5_12 (tgt := 51) (by decide) (pc' := 15) rfl (fun c12 => ?_) (fun c12 => ?_)
  · exfalso; omega
  refine WP.iloadN d5_15 rfl (pc' := 16) rfl ?_
  refine WP.iload d5_16 rfl (pc' := 18) rfl ?_
  refine WP.iadd d5_18 (pc' := 19) rfl ?_
  rw [show (((0 : Int32) + (1 : Int32)) : Int32) = (1 : Int32) from by decide]
  refine WP.iconst d5_19 (z := (1 : Int32)) rfl (pc' := 20) rfl ?_
  refine WP.iushr d5_20 (pc' := 21) rfl ?_
  rw [show (ushr (1 : Int32) (1 : Int32)) = (0 : Int32) from by decide]
  refine WP.istore d5_21 (pc' := 23) rfl (ls' := #[.val (.ref q), .val (.long t), .second, .val (.int (0 : Int32)), .val (.int (1 : Int32)), .val (.int (0 : Int32))]) rfl ?_
  refine WP.aloadN d5_23 rfl rfl (pc' := 24) rfl ?_
  refine WP.getf (i := 0) (v := (.ref va)) d5_24 (w28 hw) O_q rfl rfl (pc' := 27) rfl ?_
  refine WP.iload d5_27 rfl (pc' := 29) rfl ?_
  refine WP.iaload 0 d5_29 A_va (x := y0) rfl rfl (pc' := 30) rfl ?_
  refine WP.i2l d5_30 (pc' := 31) rfl ?_
  refine WP.lloadN d5_31 rfl (pc' := 32) rfl ?_
  refine WP.lcmpGe d5_32 rfl d5_33 (tgt := 44) (by decide) (pc' := 36) rfl (fun c32 => ?_) (fun c32 => ?_)
  ·
    refine WP.iload d5_44 rfl (pc' := 46) rfl ?_
    refine WP.istore d5_46 (pc' := 48) rfl (ls' := #[.val (.ref q), .val (.long t), .second, .val (.int (0 : Int32)), .val (.int (0 : Int32)), .val (.int (0 : Int32))]) rfl ?_
    refine WP.goto d5_48 (pc' := 9) (by decide) ?_
    refine WP.iloadN d5_9 rfl (pc' := 10) rfl ?_
    refine WP.iload d5_10 rfl (pc' := 12) rfl ?_
    refine WP.icmpGe d5_12 (tgt := 51) (by decide) (pc' := 15) rfl (fun c12 => ?_) (fun c12 => ?_)
    ·
      refine WP.iloadN d5_51 rfl (pc' := 52) rfl ?_
      exact WP.retI d5_52 rfl (by decide) (by decide) ⟨rfl, _, rfl, by omega, by omega, by omega⟩
    exfalso; omega
  refine WP.iload d5_36 rfl (pc' := 38) rfl ?_
  refine WP.iconst d5_38 (z := (1 : Int32)) rfl (pc' := 39) rfl ?_
  refine WP.iadd d5_39 (pc' := 40) rfl ?_
  rw [show (((0 : Int32) + (1 : Int32)) : Int32) = (1 : Int32) from by decide]
  refine WP.istoreN d5_40 (pc' := 41) rfl (ls' := #[.val (.ref q), .val (.long t), .second, .val (.int (1 : Int32)), .val (.int (1 : Int32)), .val (.int (0 : Int32))]) rfl ?_
  refine WP.goto d5_41 (pc' := 48) (by decide) ?_
  refine WP.goto d5_48 (pc' := 9) (by decide) ?_
  refine WP.iloadN d5_9 rfl (pc' := 10) rfl ?_
  refine WP.iload d5_10 rfl (pc' := 12) rfl ?_
  refine WP.icmpGe d5_12 (tgt := 51) (by decide) (pc' := 15) rfl (fun c12 => ?_) (fun c12 => ?_)
  ·
    refine WP.iloadN d5_51 rfl (pc' := 52) rfl ?_
    exact WP.retI d5_52 rfl (by decide) (by decide) ⟨rfl, _, rfl, by omega, by omega, by omega⟩
  exfalso; omega
theorem c2_2 {l : Launch} {Z : State} {a0 : Array Value} (hw : HW Z a0) {n0 : Nat} {h : Heap} (q a : Addr) (y0 y1 : Int32) (g_q : n0 ≤ q) (O_q : Ob Z h q "com/example/singlet/singlet/network/Domain" L_DM [.null, .null, .null, .null, .null, (.int 0), (.int 0), .null, (.int 0)]) (A_a : Av Z h a .int [(.int y0), (.int y1)]) (E_a : Exa Z h a "[I") (hs : y0.toInt < y1.toInt) (n_qa : q ≠ a) : OMet l (⟨"com/example/singlet/singlet/network/Domain", "<init>", "([ILcom/example/singlet/singlet/network/Trail;I)V"⟩ : MethodName) B3 Z n0 #[(.ref q), (.ref a), .null, (.int (-1 : Int32))] h (fun v h' => v = none ∧ ∃ (va : Addr) (z1 z2 z3 z4 z5 z6 z7 z8 : Value), Ob Z h' q "com/example/singlet/singlet/network/Domain" L_DM [.ref va, z1, z2, z3, z4, z5, z6, z7, z8] ∧ Av Z h' va .int [(.int y0), (.int y1)]) := by
  refine OMet.of_wp (ls0 := #[.val (.ref q), .val (.ref a), .val .null, .val (.int (-1 : Int32)), .unset, .unset]) pl3 rfl rfl (fun m => own_entry 2 rfl rfl) ?_
  have k32_m1 : (-1 : Int32).toInt = -1 := by decide
  have k32_0 : (0 : Int32).toInt = 0 := by decide
  have k32_1 : (1 : Int32).toInt = 1 := by decide
  have k32_2 : (2 : Int32).toInt = 2 := by decide
  refine WP.aloadN d3_0 rfl rfl (pc' := 1) rfl ?_
  refine WP.initO (a := q) d3_1 (w16 hw) (w17 hw) (w18 hw) rfl (by decide) (Nat.le_of_ble_eq_true rfl) (pc' := 4) rfl ?_
  refine WP.iconst d3_4 (z := (1 : Int32)) rfl (pc' := 5) rfl ?_
  refine WP.istore d3_5 (pc' := 7) rfl (ls' := #[.val (.ref q), .val (.ref a), .val .null, .val (.int (-1 : Int32)), .val (.int (1 : Int32)), .unset]) rfl ?_
  refine WP.iload d3_7 rfl (pc' := 9) rfl ?_
  refine WP.aloadN d3_9 rfl rfl (pc' := 10) rfl ?_
  refine WP.alen d3_10 A_a (k := (2 : Int32)) rfl (pc' := 11) rfl ?_
  refine WP.icmpGe d3_11 (tgt := 58) (by decide) (pc' := 14) rfl (fun c11 => ?_) (fun c11 => ?_)
  · exfalso; omega
  refine WP.aloadN d3_14 rfl rfl (pc' := 15) rfl ?_
  refine WP.iload d3_15 rfl (pc' := 17) rfl ?_
  refine WP.iconst d3_17 (z := (1 : Int32)) rfl (pc' := 18) rfl ?_
  refine WP.isub d3_18 (pc' := 19) rfl ?_
  rw [show (((1 : Int32) - (1 : Int32)) : Int32) = (0 : Int32) from by decide]
  refine WP.iaload 0 d3_19 A_a (x := y0) rfl rfl (pc' := 20) rfl ?_
  refine WP.aloadN d3_20 rfl rfl (pc' := 21) rfl ?_
  refine WP.iload d3_21 rfl (pc' := 23) rfl ?_
  refine WP.iaload 1 d3_23 A_a (x := y1) rfl rfl (pc' := 24) rfl ?_
  refine WP.icmpLt d3_24 (tgt := 52) (by decide) (pc' := 27) rfl (fun c24 => ?_) (fun c24 => ?_)
  ·
    refine WP.iinc d3_52 (pc' := 55) rfl rfl (y := (2 : Int32)) (by decide) (ls' := #[.val (.ref q), .val (.ref a), .val .null, .val (.int (-1 : Int32)), .val (.int (2 : Int32)), .unset]) rfl ?_
    refine WP.goto d3_55 (pc' := 7) (by decide) ?_
    refine WP.iload d3_7 rfl (pc' := 9) rfl ?_
    refine WP.aloadN d3_9 rfl rfl (pc' := 10) rfl ?_
    refine WP.alen d3_10 A_a (k := (2 : Int32)) rfl (pc' := 11) rfl ?_
    refine WP.icmpGe d3_11 (tgt := 58) (by decide) (pc' := 14) rfl (fun c11 => ?_) (fun c11 => ?_)
    ·
      refine WP.aloadN d3_58 rfl rfl (pc' := 59) rfl ?_
      refine WP.alen d3_59 A_a (k := (2 : Int32)) rfl (pc' := 60) rfl ?_
      refine WP.istore d3_60 (pc' := 62) rfl (ls' := #[.val (.ref q), .val (.ref a), .val .null, .val (.int (-1 : Int32)), .val (.int (2 : Int32)), .unset]) rfl ?_
      refine WP.aloadN d3_62 rfl rfl (pc' := 63) rfl ?_
      refine WP.aloadN d3_63 rfl rfl (pc' := 64) rfl ?_
      refine WP.aclone (ad := "[I") d3_64 (w19 hw) (w20 hw) (w24 hw) (w22 hw) (w23 hw) (w25 hw) A_a E_a (fun q v hv => by have hm := List.mem_of_getElem? hv; simp only [List.mem_cons, List.not_mem_nil, or_false] at hm; rcases hm with rfl | rfl <;> rfl) rfl (by decide) (Nat.le_of_ble_eq_true rfl) 2 (Nat.le_of_ble_eq_true rfl) (by decide) (by decide) (pc' := 67) rfl ?_
      intro va h1 eb_va g_va K2 A_va E_va
      have lt_q_va : q < va := by rw [eb_va]; exact O_q.lt
      have lt_a_va : a < va := by rw [eb_va]; exact A_a.lt
      replace E_a := E_a.keep K2
      replace O_q := O_q.keep K2 own_nil
      replace A_a := A_a.keep K2 own_nil
      refine WP.cast d3_67 (w26 hw) (Ins.self E_va) (pc' := 70) rfl ?_
      refine WP.putf (i := 0) d3_70 (w28 hw) O_q (lay_DM hw) (by decide) rfl (Or.inr ⟨(w29 hw), rfl, rfl⟩) (w8 hw) (t := (.array .int)) (by decide) rfl rfl g_q (pc' := 73) rfl ?_
      intro h3 K4 O_n
      replace E_a := E_a.keep K4
      replace E_va := E_va.keep K4
      replace A_a := A_a.keep K4 (own_cons (by first | assumption | exact Ne.symm (by assumption) | exact Nat.ne_of_lt (by assumption) | exact Nat.ne_of_gt (by assumption)) own_nil)
      replace A_va := A_va.keep K4 (own_cons (by first | assumption | exact Ne.symm (by assumption) | exact Nat.ne_of_lt (by assumption) | exact Nat.ne_of_gt (by assumption)) own_nil)
      replace O_q : Ob Z h3 q "com/example/singlet/singlet/network/Domain" L_DM [(.ref va), .null, .null, .null, .null, (.int 0), (.int 0), .null, (.int 0)] := O_n
      clear O_n
      refine WP.aloadN d3_73 rfl rfl (pc' := 74) rfl ?_
      refine WP.iload d3_74 rfl (pc' := 76) rfl ?_
      refine WP.newarrE d3_76 (w30 hw) (k := 2) rfl 2 (by decide) (by decide) (by decide) (by decide) (ad := "[Z") (by decide) (pc' := 78) rfl ?_
      intro pr h5 eb_pr g_pr K6 A_pr E_pr
      replace A_pr : Av Z h5 pr .boolean [.int 0, .int 0] := A_pr
      have lt_q_pr : q < pr := by rw [eb_pr]; exact O_q.lt
      have lt_a_pr : a < pr := by rw [eb_pr]; exact A_a.lt
      have lt_va_pr : va < pr := by rw [eb_pr]; exact A_va.lt
      replace E_a := E_a.keep K6
      replace E_va := E_va.keep K6
      replace O_q := O_q.keep K6 own_nil
      replace A_a := A_a.keep K6 own_nil
      replace A_va := A_va.keep K6 own_nil
      refine WP.putf (i := 1) d3_78 (w31 hw) O_q (lay_DM hw) (by decide) rfl (Or.inr ⟨(w32 hw), rfl, rfl⟩) (w8 hw) (t := (.array .boolean)) (by decide) rfl rfl g_q (pc' := 81) rfl ?_
      intro h7 K8 O_n
      replace E_a := E_a.keep K8
      replace E_va := E_va.keep K8
      replace E_pr := E_pr.keep K8
      replace A_a := A_a.keep K8 (own_cons (by first | assumption | exact Ne.symm (by assumption) | exact Nat.ne_of_lt (by assumption) | exact Nat.ne_of_gt (by assumption)) own_nil)
      replace A_va := A_va.keep K8 (own_cons (by first | assumption | exact Ne.symm (by assumption) | exact Nat.ne_of_lt (by assumption) | exact Nat.ne_of_gt (by assumption)) own_nil)
      replace A_pr := A_pr.keep K8 (own_cons (by first | assumption | exact Ne.symm (by assumption) | exact Nat.ne_of_lt (by assumption) | exact Nat.ne_of_gt (by assumption)) own_nil)
      replace O_q : Ob Z h7 q "com/example/singlet/singlet/network/Domain" L_DM [(.ref va), (.ref pr), .null, .null, .null, (.int 0), (.int 0), .null, (.int 0)] := O_n
      clear O_n
      refine WP.aloadN d3_81 rfl rfl (pc' := 82) rfl ?_
      refine WP.iload d3_82 rfl (pc' := 84) rfl ?_
      refine WP.newarrE d3_84 (w2 hw) (k := 2) rfl 2 (by decide) (by decide) (by decide) (by decide) (ad := "[I") (by decide) (pc' := 86) rfl ?_
      intro nx h9 eb_nx g_nx K10 A_nx E_nx
      replace A_nx : Av Z h9 nx .int [.int 0, .int 0] := A_nx
      have lt_q_nx : q < nx := by rw [eb_nx]; exact O_q.lt
      have lt_a_nx : a < nx := by rw [eb_nx]; exact A_a.lt
      have lt_va_nx : va < nx := by rw [eb_nx]; exact A_va.lt
      have lt_pr_nx : pr < nx := by rw [eb_nx]; exact A_pr.lt
      replace E_a := E_a.keep K10
      replace E_va := E_va.keep K10
      replace E_pr := E_pr.keep K10
      replace O_q := O_q.keep K10 own_nil
      replace A_a := A_a.keep K10 own_nil
      replace A_va := A_va.keep K10 own_nil
      replace A_pr := A_pr.keep K10 own_nil
      refine WP.putf (i := 2) d3_86 (w33 hw) O_q (lay_DM hw) (by decide) rfl (Or.inr ⟨(w34 hw), rfl, rfl⟩) (w8 hw) (t := (.array .int)) (by decide) rfl rfl g_q (pc' := 89) rfl ?_
      intro h11 K12 O_n
      replace E_a := E_a.keep K12
      replace E_va := E_va.keep K12
      replace E_pr := E_pr.keep K12
      replace E_nx := E_nx.keep K12
      replace A_a := A_a.keep K12 (own_cons (by first | assumption | exact Ne.symm (by assumption) | exact Nat.ne_of_lt (by assumption) | exact Nat.ne_of_gt (by assumption)) own_nil)
      replace A_va := A_va.keep K12 (own_cons (by first | assumption | exact Ne.symm (by assumption) | exact Nat.ne_of_lt (by assumption) | exact Nat.ne_of_gt (by assumption)) own_nil)
      replace A_pr := A_pr.keep K12 (own_cons (by first | assumption | exact Ne.symm (by assumption) | exact Nat.ne_of_lt (by assumption) | exact Nat.ne_of_gt (by assumption)) own_nil)
      replace A_nx := A_nx.keep K12 (own_cons (by first | assumption | exact Ne.symm (by assumption) | exact Nat.ne_of_lt (by assumption) | exact Nat.ne_of_gt (by assumption)) own_nil)
      replace O_q : Ob Z h11 q "com/example/singlet/singlet/network/Domain" L_DM [(.ref va), (.ref pr), (.ref nx), .null, .null, (.int 0), (.int 0), .null, (.int 0)] := O_n
      clear O_n
      refine WP.aloadN d3_89 rfl rfl (pc' := 90) rfl ?_
      refine WP.iload d3_90 rfl (pc' := 92) rfl ?_
      refine WP.newarrE d3_92 (w2 hw) (k := 2) rfl 2 (by decide) (by decide) (by decide) (by decide) (ad := "[I") (by decide) (pc' := 94) rfl ?_
      intro pv h13 eb_pv g_pv K14 A_pv E_pv
      replace A_pv : Av Z h13 pv .int [.int 0, .int 0] := A_pv
      have lt_q_pv : q < pv := by rw [eb_pv]; exact O_q.lt
      have lt_a_pv : a < pv := by rw [eb_pv]; exact A_a.lt
      have lt_va_pv : va < pv := by rw [eb_pv]; exact A_va.lt
      have lt_pr_pv : pr < pv := by rw [eb_pv]; exact A_pr.lt
      have lt_nx_pv : nx < pv := by rw [eb_pv]; exact A_nx.lt
      replace E_a := E_a.keep K14
      replace E_va := E_va.keep K14
      replace E_pr := E_pr.keep K14
      replace E_nx := E_nx.keep K14
      replace O_q := O_q.keep K14 own_nil
      replace A_a := A_a.keep K14 own_nil
      replace A_va := A_va.keep K14 own_nil
      replace A_pr := A_pr.keep K14 own_nil
      replace A_nx := A_nx.keep K14 own_nil
      refine WP.putf (i := 3) d3_94 (w35 hw) O_q (lay_DM hw) (by decide) rfl (Or.inr ⟨(w36 hw), rfl, rfl⟩) (w8 hw) (t := (.array .int)) (by decide) rfl rfl g_q (pc' := 97) rfl ?_
      intro h15 K16 O_n
      replace E_a := E_a.keep K16
      replace E_va := E_va.keep K16
      replace E_pr := E_pr.keep K16
      replace E_nx := E_nx.keep K16
      replace E_pv := E_pv.keep K16
      replace A_a := A_a.keep K16 (own_cons (by first | assumption | exact Ne.symm (by assumption) | exact Nat.ne_of_lt (by assumption) | exact Nat.ne_of_gt (by assumption)) own_nil)
      replace A_va := A_va.keep K16 (own_cons (by first | assumption | exact Ne.symm (by assumption) | exact Nat.ne_of_lt (by assumption) | exact Nat.ne_of_gt (by assumption)) own_nil)
      replace A_pr := A_pr.keep K16 (own_cons (by first | assumption | exact Ne.symm (by assumption) | exact Nat.ne_of_lt (by assumption) | exact Nat.ne_of_gt (by assumption)) own_nil)
      replace A_nx := A_nx.keep K16 (own_cons (by first | assumption | exact Ne.symm (by assumption) | exact Nat.ne_of_lt (by assumption) | exact Nat.ne_of_gt (by assumption)) own_nil)
      replace A_pv := A_pv.keep K16 (own_cons (by first | assumption | exact Ne.symm (by assumption) | exact Nat.ne_of_lt (by assumption) | exact Nat.ne_of_gt (by assumption)) own_nil)
      replace O_q : Ob Z h15 q "com/example/singlet/singlet/network/Domain" L_DM [(.ref va), (.ref pr), (.ref nx), (.ref pv), .null, (.int 0), (.int 0), .null, (.int 0)] := O_n
      clear O_n
      refine WP.aloadN d3_97 rfl rfl (pc' := 98) rfl ?_
      refine WP.iload d3_98 rfl (pc' := 100) rfl ?_
      refine WP.newarrE d3_100 (w2 hw) (k := 2) rfl 2 (by decide) (by decide) (by decide) (by decide) (ad := "[I") (by decide) (pc' := 102) rfl ?_
      intro rm h17 eb_rm g_rm K18 A_rm E_rm
      replace A_rm : Av Z h17 rm .int [.int 0, .int 0] := A_rm
      have lt_q_rm : q < rm := by rw [eb_rm]; exact O_q.lt
      have lt_a_rm : a < rm := by rw [eb_rm]; exact A_a.lt
      have lt_va_rm : va < rm := by rw [eb_rm]; exact A_va.lt
      have lt_pr_rm : pr < rm := by rw [eb_rm]; exact A_pr.lt
      have lt_nx_rm : nx < rm := by rw [eb_rm]; exact A_nx.lt
      have lt_pv_rm : pv < rm := by rw [eb_rm]; exact A_pv.lt
      replace E_a := E_a.keep K18
      replace E_va := E_va.keep K18
      replace E_pr := E_pr.keep K18
      replace E_nx := E_nx.keep K18
      replace E_pv := E_pv.keep K18
      replace O_q := O_q.keep K18 own_nil
      replace A_a := A_a.keep K18 own_nil
      replace A_va := A_va.keep K18 own_nil
      replace A_pr := A_pr.keep K18 own_nil
      replace A_nx := A_nx.keep K18 own_nil
      replace A_pv := A_pv.keep K18 own_nil
      refine WP.putf (i := 4) d3_102 (w37 hw) O_q (lay_DM hw) (by decide) rfl (Or.inr ⟨(w38 hw), rfl, rfl⟩) (w8 hw) (t := (.array .int)) (by decide) rfl rfl g_q (pc' := 105) rfl ?_
      intro h19 K20 O_n
      replace E_a := E_a.keep K20
      replace E_va := E_va.keep K20
      replace E_pr := E_pr.keep K20
      replace E_nx := E_nx.keep K20
      replace E_pv := E_pv.keep K20
      replace E_rm := E_rm.keep K20
      replace A_a := A_a.keep K20 (own_cons (by first | assumption | exact Ne.symm (by assumption) | exact Nat.ne_of_lt (by assumption) | exact Nat.ne_of_gt (by assumption)) own_nil)
      replace A_va := A_va.keep K20 (own_cons (by first | assumption | exact Ne.symm (by assumption) | exact Nat.ne_of_lt (by assumption) | exact Nat.ne_of_gt (by assumption)) own_nil)
      replace A_pr := A_pr.keep K20 (own_cons (by first | assumption | exact Ne.symm (by assumption) | exact Nat.ne_of_lt (by assumption) | exact Nat.ne_of_gt (by assumption)) own_nil)
      replace A_nx := A_nx.keep K20 (own_cons (by first | assumption | exact Ne.symm (by assumption) | exact Nat.ne_of_lt (by assumption) | exact Nat.ne_of_gt (by assumption)) own_nil)
      replace A_pv := A_pv.keep K20 (own_cons (by first | assumption | exact Ne.symm (by assumption) | exact Nat.ne_of_lt (by assumption) | exact Nat.ne_of_gt (by assumption)) own_nil)
      replace A_rm := A_rm.keep K20 (own_cons (by first | assumption | exact Ne.symm (by assumption) | exact Nat.ne_of_lt (by assumption) | exact Nat.ne_of_gt (by assumption)) own_nil)
      replace O_q : Ob Z h19 q "com/example/singlet/singlet/network/Domain" L_DM [(.ref va), (.ref pr), (.ref nx), (.ref pv), (.ref rm), (.int 0), (.int 0), .null, (.int 0)] := O_n
      clear O_n
      refine WP.iconst d3_105 (z := (0 : Int32)) rfl (pc' := 106) rfl ?_
      refine WP.istore d3_106 (pc' := 108) rfl (ls' := #[.val (.ref q), .val (.ref a), .val .null, .val (.int (-1 : Int32)), .val (.int (2 : Int32)), .val (.int (0 : Int32))]) rfl ?_
      refine WP.iload d3_108 rfl (pc' := 110) rfl ?_
      refine WP.iload d3_110 rfl (pc' := 112) rfl ?_
      refine WP.icmpGe d3_112 (tgt := 164) (by decide) (pc' := 115) rfl (fun c112 => ?_) (fun c112 => ?_)
      · exfalso; omega
      refine WP.aloadN d3_115 rfl rfl (pc' := 116) rfl ?_
      refine WP.getf (i := 1) (v := (.ref pr)) d3_116 (w31 hw) O_q rfl rfl (pc' := 119) rfl ?_
      refine WP.iload d3_119 rfl (pc' := 121) rfl ?_
      refine WP.iconst d3_121 (z := (1 : Int32)) rfl (pc' := 122) rfl ?_
      refine WP.bastoreZ 0 d3_122 A_pr rfl (Nat.le_of_ble_eq_true rfl) g_pr (pc' := 123) rfl ?_
      intro h21 K22 A_n
      replace E_a := E_a.keep K22
      replace E_va := E_va.keep K22
      replace E_pr := E_pr.keep K22
      replace E_nx := E_nx.keep K22
      replace E_pv := E_pv.keep K22
      replace E_rm := E_rm.keep K22
      replace O_q := O_q.keep K22 (own_cons (by first | assumption | exact Ne.symm (by assumption) | exact Nat.ne_of_lt (by assumption) | exact Nat.ne_of_gt (by assumption)) own_nil)
      replace A_a := A_a.keep K22 (own_cons (by first | assumption | exact Ne.symm (by assumption) | exact Nat.ne_of_lt (by assumption) | exact Nat.ne_of_gt (by assumption)) own_nil)
      replace A_va := A_va.keep K22 (own_cons (by first | assumption | exact Ne.symm (by assumption) | exact Nat.ne_of_lt (by assumption) | exact Nat.ne_of_gt (by assumption)) own_nil)
      replace A_nx := A_nx.keep K22 (own_cons (by first | assumption | exact Ne.symm (by assumption) | exact Nat.ne_of_lt (by assumption) | exact Nat.ne_of_gt (by assumption)) own_nil)
      replace A_pv := A_pv.keep K22 (own_cons (by first | assumption | exact Ne.symm (by assumption) | exact Nat.ne_of_lt (by assumption) | exact Nat.ne_of_gt (by assumption)) own_nil)
      replace A_rm := A_rm.keep K22 (own_cons (by first | assumption | exact Ne.symm (by assumption) | exact Nat.ne_of_lt (by assumption) | exact Nat.ne_of_gt (by assumption)) own_nil)
      replace A_pr : Av Z h21 pr .boolean [(.int (nar .boolean (1 : Int32))), (.int 0)] := A_n
      clear A_n
      refine WP.aloadN d3_123 rfl rfl (pc' := 124) rfl ?_
      refine WP.getf (i := 2) (v := (.ref nx)) d3_124 (w33 hw) O_q rfl rfl (pc' := 127) rfl ?_
      refine WP.iload d3_127 rfl (pc' := 129) rfl ?_
      refine WP.iload d3_129 rfl (pc' := 131) rfl ?_
      refine WP.iconst d3_131 (z := (1 : Int32)) rfl (pc' := 132) rfl ?_
      refine WP.iadd d3_132 (pc' := 133) rfl ?_
      rw [show (((0 : Int32) + (1 : Int32)) : Int32) = (1 : Int32) from by decide]
      refine WP.iload d3_133 rfl (pc' := 135) rfl ?_
      refine WP.icmpGe d3_135 (tgt := 145) (by decide) (pc' := 138) rfl (fun c135 => ?_) (fun c135 => ?_)
      · exfalso; omega
      refine WP.iload d3_138 rfl (pc' := 140) rfl ?_
      refine WP.iconst d3_140 (z := (1 : Int32)) rfl (pc' := 141) rfl ?_
      refine WP.iadd d3_141 (pc' := 142) rfl ?_
      rw [show (((0 : Int32) + (1 : Int32)) : Int32) = (1 : Int32) from by decide]
      refine WP.goto d3_142 (pc' := 146) (by decide) ?_
      refine WP.iastore 0 d3_146 A_nx rfl (Nat.le_of_ble_eq_true rfl) g_nx (pc' := 147) rfl ?_
      intro h23 K24 A_n
      replace E_a := E_a.keep K24
      replace E_va := E_va.keep K24
      replace E_pr := E_pr.keep K24
      replace E_nx := E_nx.keep K24
      replace E_pv := E_pv.keep K24
      replace E_rm := E_rm.keep K24
      replace O_q := O_q.keep K24 (own_cons (by first | assumption | exact Ne.symm (by assumption) | exact Nat.ne_of_lt (by assumption) | exact Nat.ne_of_gt (by assumption)) own_nil)
      replace A_a := A_a.keep K24 (own_cons (by first | assumption | exact Ne.symm (by assumption) | exact Nat.ne_of_lt (by assumption) | exact Nat.ne_of_gt (by assumption)) own_nil)
      replace A_va := A_va.keep K24 (own_cons (by first | assumption | exact Ne.symm (by assumption) | exact Nat.ne_of_lt (by assumption) | exact Nat.ne_of_gt (by assumption)) own_nil)
      replace A_pr := A_pr.keep K24 (own_cons (by first | assumption | exact Ne.symm (by assumption) | exact Nat.ne_of_lt (by assumption) | exact Nat.ne_of_gt (by assumption)) own_nil)
      replace A_pv := A_pv.keep K24 (own_cons (by first | assumption | exact Ne.symm (by assumption) | exact Nat.ne_of_lt (by assumption) | exact Nat.ne_of_gt (by assumption)) own_nil)
      replace A_rm := A_rm.keep K24 (own_cons (by first | assumption | exact Ne.symm (by assumption) | exact Nat.ne_of_lt (by assumption) | exact Nat.ne_of_gt (by assumption)) own_nil)
      replace A_nx : Av Z h23 nx .int [(.int (1 : Int32)), (.int 0)] := A_n
      clear A_n
      refine WP.aloadN d3_147 rfl rfl (pc' := 148) rfl ?_
      refine WP.getf (i := 3) (v := (.ref pv)) d3_148 (w35 hw) O_q rfl rfl (pc' := 151) rfl ?_
      refine WP.iload d3_151 rfl (pc' := 153) rfl ?_
      refine WP.iload d3_153 rfl (pc' := 155) rfl ?_
      refine WP.iconst d3_155 (z := (1 : Int32)) rfl (pc' := 156) rfl ?_
      refine WP.isub d3_156 (pc' := 157) rfl ?_
      rw [show (((0 : Int32) - (1 : Int32)) : Int32) = (-1 : Int32) from by decide]
      refine WP.iastore 0 d3_157 A_pv rfl (Nat.le_of_ble_eq_true rfl) g_pv (pc' := 158) rfl ?_
      intro h25 K26 A_n
      replace E_a := E_a.keep K26
      replace E_va := E_va.keep K26
      replace E_pr := E_pr.keep K26
      replace E_nx := E_nx.keep K26
      replace E_pv := E_pv.keep K26
      replace E_rm := E_rm.keep K26
      replace O_q := O_q.keep K26 (own_cons (by first | assumption | exact Ne.symm (by assumption) | exact Nat.ne_of_lt (by assumption) | exact Nat.ne_of_gt (by assumption)) own_nil)
      replace A_a := A_a.keep K26 (own_cons (by first | assumption | exact Ne.symm (by assumption) | exact Nat.ne_of_lt (by assumption) | exact Nat.ne_of_gt (by assumption)) own_nil)
      replace A_va := A_va.keep K26 (own_cons (by first | assumption | exact Ne.symm (by assumption) | exact Nat.ne_of_lt (by assumption) | exact Nat.ne_of_gt (by assumption)) own_nil)
      replace A_pr := A_pr.keep K26 (own_cons (by first | assumption | exact Ne.symm (by assumption) | exact Nat.ne_of_lt (by assumption) | exact Nat.ne_of_gt (by assumption)) own_nil)
      replace A_nx := A_nx.keep K26 (own_cons (by first | assumption | exact Ne.symm (by assumption) | exact Nat.ne_of_lt (by assumption) | exact Nat.ne_of_gt (by assumption)) own_nil)
      replace A_rm := A_rm.keep K26 (own_cons (by first | assumption | exact Ne.symm (by assumption) | exact Nat.ne_of_lt (by assumption) | exact Nat.ne_of_gt (by assumption)) own_nil)
      replace A_pv : Av Z h25 pv .int [(.int (-1 : Int32)), (.int 0)] := A_n
      clear A_n
      refine WP.iinc d3_158 (pc' := 161) rfl rfl (y := (1 : Int32)) (by decide) (ls' := #[.val (.ref q), .val (.ref a), .val .null, .val (.int (-1 : Int32)), .val (.int (2 : Int32)), .val (.int (1 : Int32))]) rfl ?_
      refine WP.goto d3_161 (pc' := 108) (by decide) ?_
      refine WP.iload d3_108 rfl (pc' := 110) rfl ?_
      refine WP.iload d3_110 rfl (pc' := 112) rfl ?_
      refine WP.icmpGe d3_112 (tgt := 164) (by decide) (pc' := 115) rfl (fun c112 => ?_) (fun c112 => ?_)
      · exfalso; omega
      refine WP.aloadN d3_115 rfl rfl (pc' := 116) rfl ?_
      refine WP.getf (i := 1) (v := (.ref pr)) d3_116 (w31 hw) O_q rfl rfl (pc' := 119) rfl ?_
      refine WP.iload d3_119 rfl (pc' := 121) rfl ?_
      refine WP.iconst d3_121 (z := (1 : Int32)) rfl (pc' := 122) rfl ?_
      refine WP.bastoreZ 1 d3_122 A_pr rfl (Nat.le_of_ble_eq_true rfl) g_pr (pc' := 123) rfl ?_
      intro h27 K28 A_n
      replace E_a := E_a.keep K28
      replace E_va := E_va.keep K28
      replace E_pr := E_pr.keep K28
      replace E_nx := E_nx.keep K28
      replace E_pv := E_pv.keep K28
      replace E_rm := E_rm.keep K28
      replace O_q := O_q.keep K28 (own_cons (by first | assumption | exact Ne.symm (by assumption) | exact Nat.ne_of_lt (by assumption) | exact Nat.ne_of_gt (by assumption)) own_nil)
      replace A_a := A_a.keep K28 (own_cons (by first | assumption | exact Ne.symm (by assumption) | exact Nat.ne_of_lt (by assumption) | exact Nat.ne_of_gt (by assumption)) own_nil)
      replace A_va := A_va.keep K28 (own_cons (by first | assumption | exact Ne.symm (by assumption) | exact Nat.ne_of_lt (by assumption) | exact Nat.ne_of_gt (by assumption)) own_nil)
      replace A_nx := A_nx.keep K28 (own_cons (by first | assumption | exact Ne.symm (by assumption) | exact Nat.ne_of_lt (by assumption) | exact Nat.ne_of_gt (by assumption)) own_nil)
      replace A_pv := A_pv.keep K28 (own_cons (by first | assumption | exact Ne.symm (by assumption) | exact Nat.ne_of_lt (by assumption) | exact Nat.ne_of_gt (by assumption)) own_nil)
      replace A_rm := A_rm.keep K28 (own_cons (by first | assumption | exact Ne.symm (by assumption) | exact Nat.ne_of_lt (by assumption) | exact Nat.ne_of_gt (by assumption)) own_nil)
      replace A_pr : Av Z h27 pr .boolean [(.int (nar .boolean (1 : Int32))), (.int (nar .boolean (1 : Int32)))] := A_n
      clear A_n
      refine WP.aloadN d3_123 rfl rfl (pc' := 124) rfl ?_
      refine WP.getf (i := 2) (v := (.ref nx)) d3_124 (w33 hw) O_q rfl rfl (pc' := 127) rfl ?_
      refine WP.iload d3_127 rfl (pc' := 129) rfl ?_
      refine WP.iload d3_129 rfl (pc' := 131) rfl ?_
      refine WP.iconst d3_131 (z := (1 : Int32)) rfl (pc' := 132) rfl ?_
      refine WP.iadd d3_132 (pc' := 133) rfl ?_
      rw [show (((1 : Int32) + (1 : Int32)) : Int32) = (2 : Int32) from by decide]
      refine WP.iload d3_133 rfl (pc' := 135) rfl ?_
      refine WP.icmpGe d3_135 (tgt := 145) (by decide) (pc' := 138) rfl (fun c135 => ?_) (fun c135 => ?_)
      ·
        refine WP.iconst d3_145 (z := (-1 : Int32)) rfl (pc' := 146) rfl ?_
        refine WP.iastore 1 d3_146 A_nx rfl (Nat.le_of_ble_eq_true rfl) g_nx (pc' := 147) rfl ?_
        intro h29 K30 A_n
        replace E_a := E_a.keep K30
        replace E_va := E_va.keep K30
        replace E_pr := E_pr.keep K30
        replace E_nx := E_nx.keep K30
        replace E_pv := E_pv.keep K30
        replace E_rm := E_rm.keep K30
        replace O_q := O_q.keep K30 (own_cons (by first | assumption | exact Ne.symm (by assumption) | exact Nat.ne_of_lt (by assumption) | exact Nat.ne_of_gt (by assumption)) own_nil)
        replace A_a := A_a.keep K30 (own_cons (by first | assumption | exact Ne.symm (by assumption) | exact Nat.ne_of_lt (by assumption) | exact Nat.ne_of_gt (by assumption)) own_nil)
        replace A_va := A_va.keep K30 (own_cons (by first | assumption | exact Ne.symm (by assumption) | exact Nat.ne_of_lt (by assumption) | exact Nat.ne_of_gt (by assumption)) own_nil)
        replace A_pr := A_pr.keep K30 (own_cons (by first | assumption | exact Ne.symm (by assumption) | exact Nat.ne_of_lt (by assumption) | exact Nat.ne_of_gt (by assumption)) own_nil)
        replace A_pv := A_pv.keep K30 (own_cons (by first | assumption | exact Ne.symm (by assumption) | exact Nat.ne_of_lt (by assumption) | exact Nat.ne_of_gt (by assumption)) own_nil)
        replace A_rm := A_rm.keep K30 (own_cons (by first | assumption | exact Ne.symm (by assumption) | exact Nat.ne_of_lt (by assumption) | exact Nat.ne_of_gt (by assumption)) own_nil)
        replace A_nx : Av Z h29 nx .int [(.int (1 : Int32)), (.int (-1 : Int32))] := A_n
        clear A_n
        refine WP.aloadN d3_147 rfl rfl (pc' := 148) rfl ?_
        refine WP.getf (i := 3) (v := (.ref pv)) d3_148 (w35 hw) O_q rfl rfl (pc' := 151) rfl ?_
        refine WP.iload d3_151 rfl (pc' := 153) rfl ?_
        refine WP.iload d3_153 rfl (pc' := 155) rfl ?_
        refine WP.iconst d3_155 (z := (1 : Int32)) rfl (pc' := 156) rfl ?_
        refine WP.isub d3_156 (pc' := 157) rfl ?_
        rw [show (((1 : Int32) - (1 : Int32)) : Int32) = (0 : Int32) from by decide]
        refine WP.iastore 1 d3_157 A_pv rfl (Nat.le_of_ble_eq_true rfl) g_pv (pc' := 158) rfl ?_
        intro h31 K32 A_n
        replace E_a := E_a.keep K32
        replace E_va := E_va.keep K32
        replace E_pr := E_pr.keep K32
        replace E_nx := E_nx.keep K32
        replace E_pv := E_pv.keep K32
        replace E_rm := E_rm.keep K32
        replace O_q := O_q.keep K32 (own_cons (by first | assumption | exact Ne.symm (by assumption) | exact Nat.ne_of_lt (by assumption) | exact Nat.ne_of_gt (by assumption)) own_nil)
        replace A_a := A_a.keep K32 (own_cons (by first | assumption | exact Ne.symm (by assumption) | exact Nat.ne_of_lt (by assumption) | exact Nat.ne_of_gt (by assumption)) own_nil)
        replace A_va := A_va.keep K32 (own_cons (by first | assumption | exact Ne.symm (by assumption) | exact Nat.ne_of_lt (by assumption) | exact Nat.ne_of_gt (by assumption)) own_nil)
        replace A_pr := A_pr.keep K32 (own_cons (by first | assumption | exact Ne.symm (by assumption) | exact Nat.ne_of_lt (by assumption) | exact Nat.ne_of_gt (by assumption)) own_nil)
        replace A_nx := A_nx.keep K32 (own_cons (by first | assumption | exact Ne.symm (by assumption) | exact Nat.ne_of_lt (by assumption) | exact Nat.ne_of_gt (by assumption)) own_nil)
        replace A_rm := A_rm.keep K32 (own_cons (by first | assumption | exact Ne.symm (by assumption) | exact Nat.ne_of_lt (by assumption) | exact Nat.ne_of_gt (by assumption)) own_nil)
        replace A_pv : Av Z h31 pv .int [(.int (-1 : Int32)), (.int (0 : Int32))] := A_n
        clear A_n
        refine WP.iinc d3_158 (pc' := 161) rfl rfl (y := (2 : Int32)) (by decide) (ls' := #[.val (.ref q), .val (.ref a), .val .null, .val (.int (-1 : Int32)), .val (.int (2 : Int32)), .val (.int (2 : Int32))]) rfl ?_
        refine WP.goto d3_161 (pc' := 108) (by decide) ?_
        refine WP.iload d3_108 rfl (pc' := 110) rfl ?_
        refine WP.iload d3_110 rfl (pc' := 112) rfl ?_
        refine WP.icmpGe d3_112 (tgt := 164) (by decide) (pc' := 115) rfl (fun c112 => ?_) (fun c112 => ?_)
        ·
          refine WP.aloadN d3_164 rfl rfl (pc' := 165) rfl ?_
          refine WP.iload d3_165 rfl (pc' := 167) rfl ?_
          refine WP.ifLe d3_167 (tgt := 174) (by decide) (pc' := 170) rfl (fun c167 => ?_) (fun c167 => ?_)
          · exfalso; omega
          refine WP.iconst d3_170 (z := (0 : Int32)) rfl (pc' := 171) rfl ?_
          refine WP.goto d3_171 (pc' := 175) (by decide) ?_
          refine WP.putf (i := 5) d3_175 (w39 hw) O_q (lay_DM hw) (by decide) rfl (Or.inl (w40 hw)) (w8 hw) (t := .int) (by decide) rfl rfl g_q (pc' := 178) rfl ?_
          intro h33 K34 O_n
          replace E_a := E_a.keep K34
          replace E_va := E_va.keep K34
          replace E_pr := E_pr.keep K34
          replace E_nx := E_nx.keep K34
          replace E_pv := E_pv.keep K34
          replace E_rm := E_rm.keep K34
          replace A_a := A_a.keep K34 (own_cons (by first | assumption | exact Ne.symm (by assumption) | exact Nat.ne_of_lt (by assumption) | exact Nat.ne_of_gt (by assumption)) own_nil)
          replace A_va := A_va.keep K34 (own_cons (by first | assumption | exact Ne.symm (by assumption) | exact Nat.ne_of_lt (by assumption) | exact Nat.ne_of_gt (by assumption)) own_nil)
          replace A_pr := A_pr.keep K34 (own_cons (by first | assumption | exact Ne.symm (by assumption) | exact Nat.ne_of_lt (by assumption) | exact Nat.ne_of_gt (by assumption)) own_nil)
          replace A_nx := A_nx.keep K34 (own_cons (by first | assumption | exact Ne.symm (by assumption) | exact Nat.ne_of_lt (by assumption) | exact Nat.ne_of_gt (by assumption)) own_nil)
          replace A_pv := A_pv.keep K34 (own_cons (by first | assumption | exact Ne.symm (by assumption) | exact Nat.ne_of_lt (by assumption) | exact Nat.ne_of_gt (by assumption)) own_nil)
          replace A_rm := A_rm.keep K34 (own_cons (by first | assumption | exact Ne.symm (by assumption) | exact Nat.ne_of_lt (by assumption) | exact Nat.ne_of_gt (by assumption)) own_nil)
          replace O_q : Ob Z h33 q "com/example/singlet/singlet/network/Domain" L_DM [(.ref va), (.ref pr), (.ref nx), (.ref pv), (.ref rm), (.int (0 : Int32)), (.int 0), .null, (.int 0)] := O_n
          clear O_n
          refine WP.aloadN d3_178 rfl rfl (pc' := 179) rfl ?_
          refine WP.iload d3_179 rfl (pc' := 181) rfl ?_
          refine WP.iconst d3_181 (z := (1 : Int32)) rfl (pc' := 182) rfl ?_
          refine WP.isub d3_182 (pc' := 183) rfl ?_
          rw [show (((2 : Int32) - (1 : Int32)) : Int32) = (1 : Int32) from by decide]
          refine WP.putf (i := 6) d3_183 (w41 hw) O_q (lay_DM hw) (by decide) rfl (Or.inl (w42 hw)) (w8 hw) (t := .int) (by decide) rfl rfl g_q (pc' := 186) rfl ?_
          intro h35 K36 O_n
          replace E_a := E_a.keep K36
          replace E_va := E_va.keep K36
          replace E_pr := E_pr.keep K36
          replace E_nx := E_nx.keep K36
          replace E_pv := E_pv.keep K36
          replace E_rm := E_rm.keep K36
          replace A_a := A_a.keep K36 (own_cons (by first | assumption | exact Ne.symm (by assumption) | exact Nat.ne_of_lt (by assumption) | exact Nat.ne_of_gt (by assumption)) own_nil)
          replace A_va := A_va.keep K36 (own_cons (by first | assumption | exact Ne.symm (by assumption) | exact Nat.ne_of_lt (by assumption) | exact Nat.ne_of_gt (by assumption)) own_nil)
          replace A_pr := A_pr.keep K36 (own_cons (by first | assumption | exact Ne.symm (by assumption) | exact Nat.ne_of_lt (by assumption) | exact Nat.ne_of_gt (by assumption)) own_nil)
          replace A_nx := A_nx.keep K36 (own_cons (by first | assumption | exact Ne.symm (by assumption) | exact Nat.ne_of_lt (by assumption) | exact Nat.ne_of_gt (by assumption)) own_nil)
          replace A_pv := A_pv.keep K36 (own_cons (by first | assumption | exact Ne.symm (by assumption) | exact Nat.ne_of_lt (by assumption) | exact Nat.ne_of_gt (by assumption)) own_nil)
          replace A_rm := A_rm.keep K36 (own_cons (by first | assumption | exact Ne.symm (by assumption) | exact Nat.ne_of_lt (by assumption) | exact Nat.ne_of_gt (by assumption)) own_nil)
          replace O_q : Ob Z h35 q "com/example/singlet/singlet/network/Domain" L_DM [(.ref va), (.ref pr), (.ref nx), (.ref pv), (.ref rm), (.int (0 : Int32)), (.int (1 : Int32)), .null, (.int 0)] := O_n
          clear O_n
          refine WP.aloadN d3_186 rfl rfl (pc' := 187) rfl ?_
          refine WP.aloadN d3_187 rfl rfl (pc' := 188) rfl ?_
          refine WP.putf (i := 7) d3_188 (w43 hw) O_q (lay_DM hw) (by decide) rfl (Or.inr ⟨(w44 hw), rfl, rfl⟩) (w8 hw) (t := (.object "com/example/singlet/singlet/network/Trail")) (by decide) rfl rfl g_q (pc' := 191) rfl ?_
          intro h37 K38 O_n
          replace E_a := E_a.keep K38
          replace E_va := E_va.keep K38
          replace E_pr := E_pr.keep K38
          replace E_nx := E_nx.keep K38
          replace E_pv := E_pv.keep K38
          replace E_rm := E_rm.keep K38
          replace A_a := A_a.keep K38 (own_cons (by first | assumption | exact Ne.symm (by assumption) | exact Nat.ne_of_lt (by assumption) | exact Nat.ne_of_gt (by assumption)) own_nil)
          replace A_va := A_va.keep K38 (own_cons (by first | assumption | exact Ne.symm (by assumption) | exact Nat.ne_of_lt (by assumption) | exact Nat.ne_of_gt (by assumption)) own_nil)
          replace A_pr := A_pr.keep K38 (own_cons (by first | assumption | exact Ne.symm (by assumption) | exact Nat.ne_of_lt (by assumption) | exact Nat.ne_of_gt (by assumption)) own_nil)
          replace A_nx := A_nx.keep K38 (own_cons (by first | assumption | exact Ne.symm (by assumption) | exact Nat.ne_of_lt (by assumption) | exact Nat.ne_of_gt (by assumption)) own_nil)
          replace A_pv := A_pv.keep K38 (own_cons (by first | assumption | exact Ne.symm (by assumption) | exact Nat.ne_of_lt (by assumption) | exact Nat.ne_of_gt (by assumption)) own_nil)
          replace A_rm := A_rm.keep K38 (own_cons (by first | assumption | exact Ne.symm (by assumption) | exact Nat.ne_of_lt (by assumption) | exact Nat.ne_of_gt (by assumption)) own_nil)
          replace O_q : Ob Z h37 q "com/example/singlet/singlet/network/Domain" L_DM [(.ref va), (.ref pr), (.ref nx), (.ref pv), (.ref rm), (.int (0 : Int32)), (.int (1 : Int32)), .null, (.int 0)] := O_n
          clear O_n
          refine WP.aloadN d3_191 rfl rfl (pc' := 192) rfl ?_
          refine WP.iloadN d3_192 rfl (pc' := 193) rfl ?_
          refine WP.putf (i := 8) d3_193 (w45 hw) O_q (lay_DM hw) (by decide) rfl (Or.inr ⟨(w46 hw), rfl, rfl⟩) (w8 hw) (t := .int) (by decide) rfl rfl g_q (pc' := 196) rfl ?_
          intro h39 K40 O_n
          replace E_a := E_a.keep K40
          replace E_va := E_va.keep K40
          replace E_pr := E_pr.keep K40
          replace E_nx := E_nx.keep K40
          replace E_pv := E_pv.keep K40
          replace E_rm := E_rm.keep K40
          replace A_a := A_a.keep K40 (own_cons (by first | assumption | exact Ne.symm (by assumption) | exact Nat.ne_of_lt (by assumption) | exact Nat.ne_of_gt (by assumption)) own_nil)
          replace A_va := A_va.keep K40 (own_cons (by first | assumption | exact Ne.symm (by assumption) | exact Nat.ne_of_lt (by assumption) | exact Nat.ne_of_gt (by assumption)) own_nil)
          replace A_pr := A_pr.keep K40 (own_cons (by first | assumption | exact Ne.symm (by assumption) | exact Nat.ne_of_lt (by assumption) | exact Nat.ne_of_gt (by assumption)) own_nil)
          replace A_nx := A_nx.keep K40 (own_cons (by first | assumption | exact Ne.symm (by assumption) | exact Nat.ne_of_lt (by assumption) | exact Nat.ne_of_gt (by assumption)) own_nil)
          replace A_pv := A_pv.keep K40 (own_cons (by first | assumption | exact Ne.symm (by assumption) | exact Nat.ne_of_lt (by assumption) | exact Nat.ne_of_gt (by assumption)) own_nil)
          replace A_rm := A_rm.keep K40 (own_cons (by first | assumption | exact Ne.symm (by assumption) | exact Nat.ne_of_lt (by assumption) | exact Nat.ne_of_gt (by assumption)) own_nil)
          replace O_q : Ob Z h39 q "com/example/singlet/singlet/network/Domain" L_DM [(.ref va), (.ref pr), (.ref nx), (.ref pv), (.ref rm), (.int (0 : Int32)), (.int (1 : Int32)), .null, (.int (-1 : Int32))] := O_n
          clear O_n
          exact WP.ret0 d3_196 rfl (by decide) (by decide) ⟨rfl, va, _, _, _, _, _, _, _, _, O_q, A_va⟩
        exfalso; omega
      exfalso; omega
    exfalso; omega
  exfalso; omega
theorem c1_2 {l : Launch} {Z : State} {a0 : Array Value} (hw : HW Z a0) {n0 : Nat} {h : Heap} (q a : Addr) (y0 y1 : Int32) (g_q : n0 ≤ q) (O_q : Ob Z h q "com/example/singlet/singlet/network/Domain" L_DM [.null, .null, .null, .null, .null, (.int 0), (.int 0), .null, (.int 0)]) (A_a : Av Z h a .int [(.int y0), (.int y1)]) (E_a : Exa Z h a "[I") (hs : y0.toInt < y1.toInt) (n_qa : q ≠ a) : OMet l (⟨"com/example/singlet/singlet/network/Domain", "<init>", "([I)V"⟩ : MethodName) B2 Z n0 #[(.ref q), (.ref a)] h (fun v h' => v = none ∧ ∃ (va : Addr) (z1 z2 z3 z4 z5 z6 z7 z8 : Value), Ob Z h' q "com/example/singlet/singlet/network/Domain" L_DM [.ref va, z1, z2, z3, z4, z5, z6, z7, z8] ∧ Av Z h' va .int [(.int y0), (.int y1)]) := by
  refine OMet.of_wp (ls0 := #[.val (.ref q), .val (.ref a)]) pl2 rfl rfl (fun m => own_entry 0 rfl rfl) ?_
  have k32_m1 : (-1 : Int32).toInt = -1 := by decide
  refine WP.aloadN d2_0 rfl rfl (pc' := 1) rfl ?_
  refine WP.aloadN d2_1 rfl rfl (pc' := 2) rfl ?_
  refine WP.aconstNull d2_2 (pc' := 3) rfl ?_
  refine WP.iconst d2_3 (z := (-1 : Int32)) rfl (pc' := 4) rfl ?_
  refine WP.callI (a := q) (y := (⟨"com/example/singlet/singlet/network/Domain", "<init>", "([ILcom/example/singlet/singlet/network/Trail;I)V"⟩ : MethodName)) (By := B3) (as := [(.ref a), .null, (.int (-1 : Int32))]) (rest := []) d2_4 (w13 hw) (w14 hw) (w9 hw) (w15 hw) rfl rfl (by decide) (c2_2 hw q a y0 y1 g_q O_q A_a E_a hs n_qa) pd_0 rfl rfl rfl (by decide) (Nat.le_of_ble_eq_true rfl) (by decide) (by decide) (pc' := 7) rfl ?_
  rintro _ h1 ⟨rfl, hQ⟩
  show WP _ _ _ _ _ _ _ _ _ _ []
  exact WP.ret0 d2_7 rfl (by decide) (by decide) ⟨rfl, hQ⟩
theorem fal_2 {l : Launch} {Z : State} {a0 : Array Value} (hw : HW Z a0) {n0 : Nat} {h : Heap} (q va : Addr) (t : Int64) (y0 y1 : Int32) (z1 z2 z3 z4 z5 z6 z7 z8 : Value) (O_q : Ob Z h q "com/example/singlet/singlet/network/Domain" L_DM [.ref va, z1, z2, z3, z4, z5, z6, z7, z8]) (A_va : Av Z h va .int [(.int y0), (.int y1)]) (hs : y0.toInt < y1.toInt) : OMet l (⟨"com/example/singlet/singlet/network/Domain", "firstAtLeast", "(J)I"⟩ : MethodName) B5 Z n0 #[(.ref q), (.long t)] h (fun v h' => h = h' ∧ ∃ r : Int32, v = some (.int r) ∧ 0 ≤ r.toInt ∧ r.toInt ≤ 2 ∧ ((y0.toInt < t.toInt ∧ 0 < r.toInt) ∨ (t.toInt ≤ y0.toInt ∧ r.toInt ≤ 0)) ∧ ((y1.toInt < t.toInt ∧ 1 < r.toInt) ∨ (t.toInt ≤ y1.toInt ∧ r.toInt ≤ 1))) := by
  refine OMet.of_wp (ls0 := #[.val (.ref q), .val (.long t), .second, .unset, .unset, .unset]) pl5 rfl rfl (fun m => own_entry 3 rfl rfl) ?_
  have c_y0 := c_i2l y0
  have c_y1 := c_i2l y1
  have k32_0 : (0 : Int32).toInt = 0 := by decide
  have k32_1 : (1 : Int32).toInt = 1 := by decide
  have k32_2 : (2 : Int32).toInt = 2 := by decide
  refine WP.iconst d5_0 (z := (0 : Int32)) rfl (pc' := 1) rfl ?_
  refine WP.istoreN d5_1 (pc' := 2) rfl (ls' := #[.val (.ref q), .val (.long t), .second, .val (.int (0 : Int32)), .unset, .unset]) rfl ?_
  refine WP.aloadN d5_2 rfl rfl (pc' := 3) rfl ?_
  refine WP.getf (i := 0) (v := (.ref va)) d5_3 (w28 hw) O_q rfl rfl (pc' := 6) rfl ?_
  refine WP.alen d5_6 A_va (k := (2 : Int32)) rfl (pc' := 7) rfl ?_
  refine WP.istore d5_7 (pc' := 9) rfl (ls' := #[.val (.ref q), .val (.long t), .second, .val (.int (0 : Int32)), .val (.int (2 : Int32)), .unset]) rfl ?_
  refine WP.iloadN d5_9 rfl (pc' := 10) rfl ?_
  refine WP.iload d5_10 rfl (pc' := 12) rfl ?_
  refine WP.icmpGe d5_12 (tgt := 51) (by decide) (pc' := 15) rfl (fun c12 => ?_) (fun c12 => ?_)
  · exfalso; omega
  refine WP.iloadN d5_15 rfl (pc' := 16) rfl ?_
  refine WP.iload d5_16 rfl (pc' := 18) rfl ?_
  refine WP.iadd d5_18 (pc' := 19) rfl ?_
  rw [show (((0 : Int32) + (2 : Int32)) : Int32) = (2 : Int32) from by decide]
  refine WP.iconst d5_19 (z := (1 : Int32)) rfl (pc' := 20) rfl ?_
  refine WP.iushr d5_20 (pc' := 21) rfl ?_
  rw [show (ushr (2 : Int32) (1 : Int32)) = (1 : Int32) from by decide]
  refine WP.istore d5_21 (pc' := 23) rfl (ls' := #[.val (.ref q), .val (.long t), .second, .val (.int (0 : Int32)), .val (.int (2 : Int32)), .val (.int (1 : Int32))]) rfl ?_
  refine WP.aloadN d5_23 rfl rfl (pc' := 24) rfl ?_
  refine WP.getf (i := 0) (v := (.ref va)) d5_24 (w28 hw) O_q rfl rfl (pc' := 27) rfl ?_
  refine WP.iload d5_27 rfl (pc' := 29) rfl ?_
  refine WP.iaload 1 d5_29 A_va (x := y1) rfl rfl (pc' := 30) rfl ?_
  refine WP.i2l d5_30 (pc' := 31) rfl ?_
  refine WP.lloadN d5_31 rfl (pc' := 32) rfl ?_
  refine WP.lcmpGe d5_32 rfl d5_33 (tgt := 44) (by decide) (pc' := 36) rfl (fun c32 => ?_) (fun c32 => ?_)
  ·
    refine WP.iload d5_44 rfl (pc' := 46) rfl ?_
    refine WP.istore d5_46 (pc' := 48) rfl (ls' := #[.val (.ref q), .val (.long t), .second, .val (.int (0 : Int32)), .val (.int (1 : Int32)), .val (.int (1 : Int32))]) rfl ?_
    refine WP.goto d5_48 (pc' := 9) (by decide) ?_
    refine WP.iloadN d5_9 rfl (pc' := 10) rfl ?_
    refine WP.iload d5_10 rfl (pc' := 12) rfl ?_
    refine WP.icmpGe d5_12 (tgt := 51) (by decide) (pc' := 15) rfl (fun c12 => ?_) (fun c12 => ?_)
    · exfalso; omega
    refine WP.iloadN d5_15 rfl (pc' := 16) rfl ?_
    refine WP.iload d5_16 rfl (pc' := 18) rfl ?_
    refine WP.iadd d5_18 (pc' := 19) rfl ?_
    rw [show (((0 : Int32) + (1 : Int32)) : Int32) = (1 : Int32) from by decide]
    refine WP.iconst d5_19 (z := (1 : Int32)) rfl (pc' := 20) rfl ?_
    refine WP.iushr d5_20 (pc' := 21) rfl ?_
    rw [show (ushr (1 : Int32) (1 : Int32)) = (0 : Int32) from by decide]
    refine WP.istore d5_21 (pc' := 23) rfl (ls' := #[.val (.ref q), .val (.long t), .second, .val (.int (0 : Int32)), .val (.int (1 : Int32)), .val (.int (0 : Int32))]) rfl ?_
    refine WP.aloadN d5_23 rfl rfl (pc' := 24) rfl ?_
    refine WP.getf (i := 0) (v := (.ref va)) d5_24 (w28 hw) O_q rfl rfl (pc' := 27) rfl ?_
    refine WP.iload d5_27 rfl (pc' := 29) rfl ?_
    refine WP.iaload 0 d5_29 A_va (x := y0) rfl rfl (pc' := 30) rfl ?_
    refine WP.i2l d5_30 (pc' := 31) rfl ?_
    refine WP.lloadN d5_31 rfl (pc' := 32) rfl ?_
    refine WP.lcmpGe d5_32 rfl d5_33 (tgt := 44) (by decide) (pc' := 36) rfl (fun c32 => ?_) (fun c32 => ?_)
    ·
      refine WP.iload d5_44 rfl (pc' := 46) rfl ?_
      refine WP.istore d5_46 (pc' := 48) rfl (ls' := #[.val (.ref q), .val (.long t), .second, .val (.int (0 : Int32)), .val (.int (0 : Int32)), .val (.int (0 : Int32))]) rfl ?_
      refine WP.goto d5_48 (pc' := 9) (by decide) ?_
      refine WP.iloadN d5_9 rfl (pc' := 10) rfl ?_
      refine WP.iload d5_10 rfl (pc' := 12) rfl ?_
      refine WP.icmpGe d5_12 (tgt := 51) (by decide) (pc' := 15) rfl (fun c12 => ?_) (fun c12 => ?_)
      ·
        refine WP.iloadN d5_51 rfl (pc' := 52) rfl ?_
        exact WP.retI d5_52 rfl (by decide) (by decide) ⟨rfl, _, rfl, by omega, by omega, by refine ⟨?_, ?_⟩ <;> omega⟩
      exfalso; omega
    refine WP.iload d5_36 rfl (pc' := 38) rfl ?_
    refine WP.iconst d5_38 (z := (1 : Int32)) rfl (pc' := 39) rfl ?_
    refine WP.iadd d5_39 (pc' := 40) rfl ?_
    rw [show (((0 : Int32) + (1 : Int32)) : Int32) = (1 : Int32) from by decide]
    refine WP.istoreN d5_40 (pc' := 41) rfl (ls' := #[.val (.ref q), .val (.long t), .second, .val (.int (1 : Int32)), .val (.int (1 : Int32)), .val (.int (0 : Int32))]) rfl ?_
    refine WP.goto d5_41 (pc' := 48) (by decide) ?_
    refine WP.goto d5_48 (pc' := 9) (by decide) ?_
    refine WP.iloadN d5_9 rfl (pc' := 10) rfl ?_
    refine WP.iload d5_10 rfl (pc' := 12) rfl ?_
    refine WP.icmpGe d5_12 (tgt := 51) (by decide) (pc' := 15) rfl (fun c12 => ?_) (fun c12 => ?_)
    ·
      refine WP.iloadN d5_51 rfl (pc' := 52) rfl ?_
      exact WP.retI d5_52 rfl (by decide) (by decide) ⟨rfl, _, rfl, by omega, by omega, by refine ⟨?_, ?_⟩ <;> omega⟩
    exfalso; omega
  refine WP.iload d5_36 rfl (pc' := 38) rfl ?_
  refine WP.iconst d5_38 (z := (1 : Int32)) rfl (pc' := 39) rfl ?_
  refine WP.iadd d5_39 (pc' := 40) rfl ?_
  rw [show (((1 : Int32) + (1 : Int32)) : Int32) = (2 : Int32) from by decide]
  refine WP.istoreN d5_40 (pc' := 41) rfl (ls' := #[.val (.ref q), .val (.long t), .second, .val (.int (2 : Int32)), .val (.int (2 : Int32)), .val (.int (1 : Int32))]) rfl ?_
  refine WP.goto d5_41 (pc' := 48) (by decide) ?_
  refine WP.goto d5_48 (pc' := 9) (by decide) ?_
  refine WP.iloadN d5_9 rfl (pc' := 10) rfl ?_
  refine WP.iload d5_10 rfl (pc' := 12) rfl ?_
  refine WP.icmpGe d5_12 (tgt := 51) (by decide) (pc' := 15) rfl (fun c12 => ?_) (fun c12 => ?_)
  ·
    refine WP.iloadN d5_51 rfl (pc' := 52) rfl ?_
    exact WP.retI d5_52 rfl (by decide) (by decide) ⟨rfl, _, rfl, by omega, by omega, by refine ⟨?_, ?_⟩ <;> omega⟩
  exfalso; omega
theorem c2_3 {l : Launch} {Z : State} {a0 : Array Value} (hw : HW Z a0) {n0 : Nat} {h : Heap} (q a : Addr) (y0 y1 y2 : Int32) (g_q : n0 ≤ q) (O_q : Ob Z h q "com/example/singlet/singlet/network/Domain" L_DM [.null, .null, .null, .null, .null, (.int 0), (.int 0), .null, (.int 0)]) (A_a : Av Z h a .int [(.int y0), (.int y1), (.int y2)]) (E_a : Exa Z h a "[I") (hs : y0.toInt < y1.toInt ∧ y1.toInt < y2.toInt) (n_qa : q ≠ a) : OMet l (⟨"com/example/singlet/singlet/network/Domain", "<init>", "([ILcom/example/singlet/singlet/network/Trail;I)V"⟩ : MethodName) B3 Z n0 #[(.ref q), (.ref a), .null, (.int (-1 : Int32))] h (fun v h' => v = none ∧ ∃ (va : Addr) (z1 z2 z3 z4 z5 z6 z7 z8 : Value), Ob Z h' q "com/example/singlet/singlet/network/Domain" L_DM [.ref va, z1, z2, z3, z4, z5, z6, z7, z8] ∧ Av Z h' va .int [(.int y0), (.int y1), (.int y2)]) := by
  refine OMet.of_wp (ls0 := #[.val (.ref q), .val (.ref a), .val .null, .val (.int (-1 : Int32)), .unset, .unset]) pl3 rfl rfl (fun m => own_entry 2 rfl rfl) ?_
  have k32_m1 : (-1 : Int32).toInt = -1 := by decide
  have k32_0 : (0 : Int32).toInt = 0 := by decide
  have k32_1 : (1 : Int32).toInt = 1 := by decide
  have k32_2 : (2 : Int32).toInt = 2 := by decide
  have k32_3 : (3 : Int32).toInt = 3 := by decide
  refine WP.aloadN d3_0 rfl rfl (pc' := 1) rfl ?_
  refine WP.initO (a := q) d3_1 (w16 hw) (w17 hw) (w18 hw) rfl (by decide) (Nat.le_of_ble_eq_true rfl) (pc' := 4) rfl ?_
  refine WP.iconst d3_4 (z := (1 : Int32)) rfl (pc' := 5) rfl ?_
  refine WP.istore d3_5 (pc' := 7) rfl (ls' := #[.val (.ref q), .val (.ref a), .val .null, .val (.int (-1 : Int32)), .val (.int (1 : Int32)), .unset]) rfl ?_
  refine WP.iload d3_7 rfl (pc' := 9) rfl ?_
  refine WP.aloadN d3_9 rfl rfl (pc' := 10) rfl ?_
  refine WP.alen d3_10 A_a (k := (3 : Int32)) rfl (pc' := 11) rfl ?_
  refine WP.icmpGe d3_11 (tgt := 58) (by decide) (pc' := 14) rfl (fun c11 => ?_) (fun c11 => ?_)
  · exfalso; omega
  refine WP.aloadN d3_14 rfl rfl (pc' := 15) rfl ?_
  refine WP.iload d3_15 rfl (pc' := 17) rfl ?_
  refine WP.iconst d3_17 (z := (1 : Int32)) rfl (pc' := 18) rfl ?_
  refine WP.isub d3_18 (pc' := 19) rfl ?_
  rw [show (((1 : Int32) - (1 : Int32)) : Int32) = (0 : Int32) from by decide]
  refine WP.iaload 0 d3_19 A_a (x := y0) rfl rfl (pc' := 20) rfl ?_
  refine WP.aloadN d3_20 rfl rfl (pc' := 21) rfl ?_
  refine WP.iload d3_21 rfl (pc' := 23) rfl ?_
  refine WP.iaload 1 d3_23 A_a (x := y1) rfl rfl (pc' := 24) rfl ?_
  refine WP.icmpLt d3_24 (tgt := 52) (by decide) (pc' := 27) rfl (fun c24 => ?_) (fun c24 => ?_)
  ·
    refine WP.iinc d3_52 (pc' := 55) rfl rfl (y := (2 : Int32)) (by decide) (ls' := #[.val (.ref q), .val (.ref a), .val .null, .val (.int (-1 : Int32)), .val (.int (2 : Int32)), .unset]) rfl ?_
    refine WP.goto d3_55 (pc' := 7) (by decide) ?_
    refine WP.iload d3_7 rfl (pc' := 9) rfl ?_
    refine WP.aloadN d3_9 rfl rfl (pc' := 10) rfl ?_
    refine WP.alen d3_10 A_a (k := (3 : Int32)) rfl (pc' := 11) rfl ?_
    refine WP.icmpGe d3_11 (tgt := 58) (by decide) (pc' := 14) rfl (fun c11 => ?_) (fun c11 => ?_)
    · exfalso; omega
    refine WP.aloadN d3_14 rfl rfl (pc' := 15) rfl ?_
    refine WP.iload d3_15 rfl (pc' := 17) rfl ?_
    refine WP.iconst d3_17 (z := (1 : Int32)) rfl (pc' := 18) rfl ?_
    refine WP.isub d3_18 (pc' := 19) rfl ?_
    rw [show (((2 : Int32) - (1 : Int32)) : Int32) = (1 : Int32) from by decide]
    refine WP.iaload 1 d3_19 A_a (x := y1) rfl rfl (pc' := 20) rfl ?_
    refine WP.aloadN d3_20 rfl rfl (pc' := 21) rfl ?_
    refine WP.iload d3_21 rfl (pc' := 23) rfl ?_
    refine WP.iaload 2 d3_23 A_a (x := y2) rfl rfl (pc' := 24) rfl ?_
    refine WP.icmpLt d3_24 (tgt := 52) (by decide) (pc' := 27) rfl (fun c24 => ?_) (fun c24 => ?_)
    ·
      refine WP.iinc d3_52 (pc' := 55) rfl rfl (y := (3 : Int32)) (by decide) (ls' := #[.val (.ref q), .val (.ref a), .val .null, .val (.int (-1 : Int32)), .val (.int (3 : Int32)), .unset]) rfl ?_
      refine WP.goto d3_55 (pc' := 7) (by decide) ?_
      refine WP.iload d3_7 rfl (pc' := 9) rfl ?_
      refine WP.aloadN d3_9 rfl rfl (pc' := 10) rfl ?_
      refine WP.alen d3_10 A_a (k := (3 : Int32)) rfl (pc' := 11) rfl ?_
      refine WP.icmpGe d3_11 (tgt := 58) (by decide) (pc' := 14) rfl (fun c11 => ?_) (fun c11 => ?_)
      ·
        refine WP.aloadN d3_58 rfl rfl (pc' := 59) rfl ?_
        refine WP.alen d3_59 A_a (k := (3 : Int32)) rfl (pc' := 60) rfl ?_
        refine WP.istore d3_60 (pc' := 62) rfl (ls' := #[.val (.ref q), .val (.ref a), .val .null, .val (.int (-1 : Int32)), .val (.int (3 : Int32)), .unset]) rfl ?_
        refine WP.aloadN d3_62 rfl rfl (pc' := 63) rfl ?_
        refine WP.aloadN d3_63 rfl rfl (pc' := 64) rfl ?_
        refine WP.aclone (ad := "[I") d3_64 (w19 hw) (w20 hw) (w24 hw) (w22 hw) (w23 hw) (w25 hw) A_a E_a (fun q v hv => by have hm := List.mem_of_getElem? hv; simp only [List.mem_cons, List.not_mem_nil, or_false] at hm; rcases hm with rfl | rfl | rfl <;> rfl) rfl (by decide) (Nat.le_of_ble_eq_true rfl) 3 (Nat.le_of_ble_eq_true rfl) (by decide) (by decide) (pc' := 67) rfl ?_
        intro va h1 eb_va g_va K2 A_va E_va
        have lt_q_va : q < va := by rw [eb_va]; exact O_q.lt
        have lt_a_va : a < va := by rw [eb_va]; exact A_a.lt
        replace E_a := E_a.keep K2
        replace O_q := O_q.keep K2 own_nil
        replace A_a := A_a.keep K2 own_nil
        refine WP.cast d3_67 (w26 hw) (Ins.self E_va) (pc' := 70) rfl ?_
        refine WP.putf (i := 0) d3_70 (w28 hw) O_q (lay_DM hw) (by decide) rfl (Or.inr ⟨(w29 hw), rfl, rfl⟩) (w8 hw) (t := (.array .int)) (by decide) rfl rfl g_q (pc' := 73) rfl ?_
        intro h3 K4 O_n
        replace E_a := E_a.keep K4
        replace E_va := E_va.keep K4
        replace A_a := A_a.keep K4 (own_cons (by first | assumption | exact Ne.symm (by assumption) | exact Nat.ne_of_lt (by assumption) | exact Nat.ne_of_gt (by assumption)) own_nil)
        replace A_va := A_va.keep K4 (own_cons (by first | assumption | exact Ne.symm (by assumption) | exact Nat.ne_of_lt (by assumption) | exact Nat.ne_of_gt (by assumption)) own_nil)
        replace O_q : Ob Z h3 q "com/example/singlet/singlet/network/Domain" L_DM [(.ref va), .null, .null, .null, .null, (.int 0), (.int 0), .null, (.int 0)] := O_n
        clear O_n
        refine WP.aloadN d3_73 rfl rfl (pc' := 74) rfl ?_
        refine WP.iload d3_74 rfl (pc' := 76) rfl ?_
        refine WP.newarrE d3_76 (w30 hw) (k := 3) rfl 3 (by decide) (by decide) (by decide) (by decide) (ad := "[Z") (by decide) (pc' := 78) rfl ?_
        intro pr h5 eb_pr g_pr K6 A_pr E_pr
        replace A_pr : Av Z h5 pr .boolean [.int 0, .int 0, .int 0] := A_pr
        have lt_q_pr : q < pr := by rw [eb_pr]; exact O_q.lt
        have lt_a_pr : a < pr := by rw [eb_pr]; exact A_a.lt
        have lt_va_pr : va < pr := by rw [eb_pr]; exact A_va.lt
        replace E_a := E_a.keep K6
        replace E_va := E_va.keep K6
        replace O_q := O_q.keep K6 own_nil
        replace A_a := A_a.keep K6 own_nil
        replace A_va := A_va.keep K6 own_nil
        refine WP.putf (i := 1) d3_78 (w31 hw) O_q (lay_DM hw) (by decide) rfl (Or.inr ⟨(w32 hw), rfl, rfl⟩) (w8 hw) (t := (.array .boolean)) (by decide) rfl rfl g_q (pc' := 81) rfl ?_
        intro h7 K8 O_n
        replace E_a := E_a.keep K8
        replace E_va := E_va.keep K8
        replace E_pr := E_pr.keep K8
        replace A_a := A_a.keep K8 (own_cons (by first | assumption | exact Ne.symm (by assumption) | exact Nat.ne_of_lt (by assumption) | exact Nat.ne_of_gt (by assumption)) own_nil)
        replace A_va := A_va.keep K8 (own_cons (by first | assumption | exact Ne.symm (by assumption) | exact Nat.ne_of_lt (by assumption) | exact Nat.ne_of_gt (by assumption)) own_nil)
        replace A_pr := A_pr.keep K8 (own_cons (by first | assumption | exact Ne.symm (by assumption) | exact Nat.ne_of_lt (by assumption) | exact Nat.ne_of_gt (by assumption)) own_nil)
        replace O_q : Ob Z h7 q "com/example/singlet/singlet/network/Domain" L_DM [(.ref va), (.ref pr), .null, .null, .null, (.int 0), (.int 0), .null, (.int 0)] := O_n
        clear O_n
        refine WP.aloadN d3_81 rfl rfl (pc' := 82) rfl ?_
        refine WP.iload d3_82 rfl (pc' := 84) rfl ?_
        refine WP.newarrE d3_84 (w2 hw) (k := 3) rfl 3 (by decide) (by decide) (by decide) (by decide) (ad := "[I") (by decide) (pc' := 86) rfl ?_
        intro nx h9 eb_nx g_nx K10 A_nx E_nx
        replace A_nx : Av Z h9 nx .int [.int 0, .int 0, .int 0] := A_nx
        have lt_q_nx : q < nx := by rw [eb_nx]; exact O_q.lt
        have lt_a_nx : a < nx := by rw [eb_nx]; exact A_a.lt
        have lt_va_nx : va < nx := by rw [eb_nx]; exact A_va.lt
        have lt_pr_nx : pr < nx := by rw [eb_nx]; exact A_pr.lt
        replace E_a := E_a.keep K10
        replace E_va := E_va.keep K10
        replace E_pr := E_pr.keep K10
        replace O_q := O_q.keep K10 own_nil
        replace A_a := A_a.keep K10 own_nil
        replace A_va := A_va.keep K10 own_nil
        replace A_pr := A_pr.keep K10 own_nil
        refine WP.putf (i := 2) d3_86 (w33 hw) O_q (lay_DM hw) (by decide) rfl (Or.inr ⟨(w34 hw), rfl, rfl⟩) (w8 hw) (t := (.array .int)) (by decide) rfl rfl g_q (pc' := 89) rfl ?_
        intro h11 K12 O_n
        replace E_a := E_a.keep K12
        replace E_va := E_va.keep K12
        replace E_pr := E_pr.keep K12
        replace E_nx := E_nx.keep K12
        replace A_a := A_a.keep K12 (own_cons (by first | assumption | exact Ne.symm (by assumption) | exact Nat.ne_of_lt (by assumption) | exact Nat.ne_of_gt (by assumption)) own_nil)
        replace A_va := A_va.keep K12 (own_cons (by first | assumption | exact Ne.symm (by assumption) | exact Nat.ne_of_lt (by assumption) | exact Nat.ne_of_gt (by assumption)) own_nil)
        replace A_pr := A_pr.keep K12 (own_cons (by first | assumption | exact Ne.symm (by assumption) | exact Nat.ne_of_lt (by assumption) | exact Nat.ne_of_gt (by assumption)) own_nil)
        replace A_nx := A_nx.keep K12 (own_cons (by first | assumption | exact Ne.symm (by assumption) | exact Nat.ne_of_lt (by assumption) | exact Nat.ne_of_gt (by assumption)) own_nil)
        replace O_q : Ob Z h11 q "com/example/singlet/singlet/network/Domain" L_DM [(.ref va), (.ref pr), (.ref nx), .null, .null, (.int 0), (.int 0), .null, (.int 0)] := O_n
        clear O_n
        refine WP.aloadN d3_89 rfl rfl (pc' := 90) rfl ?_
        refine WP.iload d3_90 rfl (pc' := 92) rfl ?_
        refine WP.newarrE d3_92 (w2 hw) (k := 3) rfl 3 (by decide) (by decide) (by decide) (by decide) (ad := "[I") (by decide) (pc' := 94) rfl ?_
        intro pv h13 eb_pv g_pv K14 A_pv E_pv
        replace A_pv : Av Z h13 pv .int [.int 0, .int 0, .int 0] := A_pv
        have lt_q_pv : q < pv := by rw [eb_pv]; exact O_q.lt
        have lt_a_pv : a < pv := by rw [eb_pv]; exact A_a.lt
        have lt_va_pv : va < pv := by rw [eb_pv]; exact A_va.lt
        have lt_pr_pv : pr < pv := by rw [eb_pv]; exact A_pr.lt
        have lt_nx_pv : nx < pv := by rw [eb_pv]; exact A_nx.lt
        replace E_a := E_a.keep K14
        replace E_va := E_va.keep K14
        replace E_pr := E_pr.keep K14
        replace E_nx := E_nx.keep K14
        replace O_q := O_q.keep K14 own_nil
        replace A_a := A_a.keep K14 own_nil
        replace A_va := A_va.keep K14 own_nil
        replace A_pr := A_pr.keep K14 own_nil
        replace A_nx := A_nx.keep K14 own_nil
        refine WP.putf (i := 3) d3_94 (w35 hw) O_q (lay_DM hw) (by decide) rfl (Or.inr ⟨(w36 hw), rfl, rfl⟩) (w8 hw) (t := (.array .int)) (by decide) rfl rfl g_q (pc' := 97) rfl ?_
        intro h15 K16 O_n
        replace E_a := E_a.keep K16
        replace E_va := E_va.keep K16
        replace E_pr := E_pr.keep K16
        replace E_nx := E_nx.keep K16
        replace E_pv := E_pv.keep K16
        replace A_a := A_a.keep K16 (own_cons (by first | assumption | exact Ne.symm (by assumption) | exact Nat.ne_of_lt (by assumption) | exact Nat.ne_of_gt (by assumption)) own_nil)
        replace A_va := A_va.keep K16 (own_cons (by first | assumption | exact Ne.symm (by assumption) | exact Nat.ne_of_lt (by assumption) | exact Nat.ne_of_gt (by assumption)) own_nil)
        replace A_pr := A_pr.keep K16 (own_cons (by first | assumption | exact Ne.symm (by assumption) | exact Nat.ne_of_lt (by assumption) | exact Nat.ne_of_gt (by assumption)) own_nil)
        replace A_nx := A_nx.keep K16 (own_cons (by first | assumption | exact Ne.symm (by assumption) | exact Nat.ne_of_lt (by assumption) | exact Nat.ne_of_gt (by assumption)) own_nil)
        replace A_pv := A_pv.keep K16 (own_cons (by first | assumption | exact Ne.symm (by assumption) | exact Nat.ne_of_lt (by assumption) | exact Nat.ne_of_gt (by assumption)) own_nil)
        replace O_q : Ob Z h15 q "com/example/singlet/singlet/network/Domain" L_DM [(.ref va), (.ref pr), (.ref nx), (.ref pv), .null, (.int 0), (.int 0), .null, (.int 0)] := O_n
        clear O_n
        refine WP.aloadN d3_97 rfl rfl (pc' := 98) rfl ?_
        refine WP.iload d3_98 rfl (pc' := 100) rfl ?_
        refine WP.newarrE d3_100 (w2 hw) (k := 3) rfl 3 (by decide) (by decide) (by decide) (by decide) (ad := "[I") (by decide) (pc' := 102) rfl ?_
        intro rm h17 eb_rm g_rm K18 A_rm E_rm
        replace A_rm : Av Z h17 rm .int [.int 0, .int 0, .int 0] := A_rm
        have lt_q_rm : q < rm := by rw [eb_rm]; exact O_q.lt
        have lt_a_rm : a < rm := by rw [eb_rm]; exact A_a.lt
        have lt_va_rm : va < rm := by rw [eb_rm]; exact A_va.lt
        have lt_pr_rm : pr < rm := by rw [eb_rm]; exact A_pr.lt
        have lt_nx_rm : nx < rm := by rw [eb_rm]; exact A_nx.lt
        have lt_pv_rm : pv < rm := by rw [eb_rm]; exact A_pv.lt
        replace E_a := E_a.keep K18
        replace E_va := E_va.keep K18
        replace E_pr := E_pr.keep K18
        replace E_nx := E_nx.keep K18
        replace E_pv := E_pv.keep K18
        replace O_q := O_q.keep K18 own_nil
        replace A_a := A_a.keep K18 own_nil
        replace A_va := A_va.keep K18 own_nil
        replace A_pr := A_pr.keep K18 own_nil
        replace A_nx := A_nx.keep K18 own_nil
        replace A_pv := A_pv.keep K18 own_nil
        refine WP.putf (i := 4) d3_102 (w37 hw) O_q (lay_DM hw) (by decide) rfl (Or.inr ⟨(w38 hw), rfl, rfl⟩) (w8 hw) (t := (.array .int)) (by decide) rfl rfl g_q (pc' := 105) rfl ?_
        intro h19 K20 O_n
        replace E_a := E_a.keep K20
        replace E_va := E_va.keep K20
        replace E_pr := E_pr.keep K20
        replace E_nx := E_nx.keep K20
        replace E_pv := E_pv.keep K20
        replace E_rm := E_rm.keep K20
        replace A_a := A_a.keep K20 (own_cons (by first | assumption | exact Ne.symm (by assumption) | exact Nat.ne_of_lt (by assumption) | exact Nat.ne_of_gt (by assumption)) own_nil)
        replace A_va := A_va.keep K20 (own_cons (by first | assumption | exact Ne.symm (by assumption) | exact Nat.ne_of_lt (by assumption) | exact Nat.ne_of_gt (by assumption)) own_nil)
        replace A_pr := A_pr.keep K20 (own_cons (by first | assumption | exact Ne.symm (by assumption) | exact Nat.ne_of_lt (by assumption) | exact Nat.ne_of_gt (by assumption)) own_nil)
        replace A_nx := A_nx.keep K20 (own_cons (by first | assumption | exact Ne.symm (by assumption) | exact Nat.ne_of_lt (by assumption) | exact Nat.ne_of_gt (by assumption)) own_nil)
        replace A_pv := A_pv.keep K20 (own_cons (by first | assumption | exact Ne.symm (by assumption) | exact Nat.ne_of_lt (by assumption) | exact Nat.ne_of_gt (by assumption)) own_nil)
        replace A_rm := A_rm.keep K20 (own_cons (by first | assumption | exact Ne.symm (by assumption) | exact Nat.ne_of_lt (by assumption) | exact Nat.ne_of_gt (by assumption)) own_nil)
        replace O_q : Ob Z h19 q "com/example/singlet/singlet/network/Domain" L_DM [(.ref va), (.ref pr), (.ref nx), (.ref pv), (.ref rm), (.int 0), (.int 0), .null, (.int 0)] := O_n
        clear O_n
        refine WP.iconst d3_105 (z := (0 : Int32)) rfl (pc' := 106) rfl ?_
        refine WP.istore d3_106 (pc' := 108) rfl (ls' := #[.val (.ref q), .val (.ref a), .val .null, .val (.int (-1 : Int32)), .val (.int (3 : Int32)), .val (.int (0 : Int32))]) rfl ?_
        refine WP.iload d3_108 rfl (pc' := 110) rfl ?_
        refine WP.iload d3_110 rfl (pc' := 112) rfl ?_
        refine WP.icmpGe d3_112 (tgt := 164) (by decide) (pc' := 115) rfl (fun c112 => ?_) (fun c112 => ?_)
        · exfalso; omega
        refine WP.aloadN d3_115 rfl rfl (pc' := 116) rfl ?_
        refine WP.getf (i := 1) (v := (.ref pr)) d3_116 (w31 hw) O_q rfl rfl (pc' := 119) rfl ?_
        refine WP.iload d3_119 rfl (pc' := 121) rfl ?_
        refine WP.iconst d3_121 (z := (1 : Int32)) rfl (pc' := 122) rfl ?_
        refine WP.bastoreZ 0 d3_122 A_pr rfl (Nat.le_of_ble_eq_true rfl) g_pr (pc' := 123) rfl ?_
        intro h21 K22 A_n
        replace E_a := E_a.keep K22
        replace E_va := E_va.keep K22
        replace E_pr := E_pr.keep K22
        replace E_nx := E_nx.keep K22
        replace E_pv := E_pv.keep K22
        replace E_rm := E_rm.keep K22
        replace O_q := O_q.keep K22 (own_cons (by first | assumption | exact Ne.symm (by assumption) | exact Nat.ne_of_lt (by assumption) | exact Nat.ne_of_gt (by assumption)) own_nil)
        replace A_a := A_a.keep K22 (own_cons (by first | assumption | exact Ne.symm (by assumption) | exact Nat.ne_of_lt (by assumption) | exact Nat.ne_of_gt (by assumption)) own_nil)
        replace A_va := A_va.keep K22 (own_cons (by first | assumption | exact Ne.symm (by assumption) | exact Nat.ne_of_lt (by assumption) | exact Nat.ne_of_gt (by assumption)) own_nil)
        replace A_nx := A_nx.keep K22 (own_cons (by first | assumption | exact Ne.symm (by assumption) | exact Nat.ne_of_lt (by assumption) | exact Nat.ne_of_gt (by assumption)) own_nil)
        replace A_pv := A_pv.keep K22 (own_cons (by first | assumption | exact Ne.symm (by assumption) | exact Nat.ne_of_lt (by assumption) | exact Nat.ne_of_gt (by assumption)) own_nil)
        replace A_rm := A_rm.keep K22 (own_cons (by first | assumption | exact Ne.symm (by assumption) | exact Nat.ne_of_lt (by assumption) | exact Nat.ne_of_gt (by assumption)) own_nil)
        replace A_pr : Av Z h21 pr .boolean [(.int (nar .boolean (1 : Int32))), (.int 0), (.int 0)] := A_n
        clear A_n
        refine WP.aloadN d3_123 rfl rfl (pc' := 124) rfl ?_
        refine WP.getf (i := 2) (v := (.ref nx)) d3_124 (w33 hw) O_q rfl rfl (pc' := 127) rfl ?_
        refine WP.iload d3_127 rfl (pc' := 129) rfl ?_
        refine WP.iload d3_129 rfl (pc' := 131) rfl ?_
        refine WP.iconst d3_131 (z := (1 : Int32)) rfl (pc' := 132) rfl ?_
        refine WP.iadd d3_132 (pc' := 133) rfl ?_
        rw [show (((0 : Int32) + (1 : Int32)) : Int32) = (1 : Int32) from by decide]
        refine WP.iload d3_133 rfl (pc' := 135) rfl ?_
        refine WP.icmpGe d3_135 (tgt := 145) (by decide) (pc' := 138) rfl (fun c135 => ?_) (fun c135 => ?_)
        · exfalso; omega
        refine WP.iload d3_138 rfl (pc' := 140) rfl ?_
        refine WP.iconst d3_140 (z := (1 : Int32)) rfl (pc' := 141) rfl ?_
        refine WP.iadd d3_141 (pc' := 142) rfl ?_
        rw [show (((0 : Int32) + (1 : Int32)) : Int32) = (1 : Int32) from by decide]
        refine WP.goto d3_142 (pc' := 146) (by decide) ?_
        refine WP.iastore 0 d3_146 A_nx rfl (Nat.le_of_ble_eq_true rfl) g_nx (pc' := 147) rfl ?_
        intro h23 K24 A_n
        replace E_a := E_a.keep K24
        replace E_va := E_va.keep K24
        replace E_pr := E_pr.keep K24
        replace E_nx := E_nx.keep K24
        replace E_pv := E_pv.keep K24
        replace E_rm := E_rm.keep K24
        replace O_q := O_q.keep K24 (own_cons (by first | assumption | exact Ne.symm (by assumption) | exact Nat.ne_of_lt (by assumption) | exact Nat.ne_of_gt (by assumption)) own_nil)
        replace A_a := A_a.keep K24 (own_cons (by first | assumption | exact Ne.symm (by assumption) | exact Nat.ne_of_lt (by assumption) | exact Nat.ne_of_gt (by assumption)) own_nil)
        replace A_va := A_va.keep K24 (own_cons (by first | assumption | exact Ne.symm (by assumption) | exact Nat.ne_of_lt (by assumption) | exact Nat.ne_of_gt (by assumption)) own_nil)
        replace A_pr := A_pr.keep K24 (own_cons (by first | assumption | exact Ne.symm (by assumption) | exact Nat.ne_of_lt (by assumption) | exact Nat.ne_of_gt (by assumption)) own_nil)
        replace A_pv := A_pv.keep K24 (own_cons (by first | assumption | exact Ne.symm (by assumption) | exact Nat.ne_of_lt (by assumption) | exact Nat.ne_of_gt (by assumption)) own_nil)
        replace A_rm := A_rm.keep K24 (own_cons (by first | assumption | exact Ne.symm (by assumption) | exact Nat.ne_of_lt (by assumption) | exact Nat.ne_of_gt (by assumption)) own_nil)
        replace A_nx : Av Z h23 nx .int [(.int (1 : Int32)), (.int 0), (.int 0)] := A_n
        clear A_n
        refine WP.aloadN d3_147 rfl rfl (pc' := 148) rfl ?_
        refine WP.getf (i := 3) (v := (.ref pv)) d3_148 (w35 hw) O_q rfl rfl (pc' := 151) rfl ?_
        refine WP.iload d3_151 rfl (pc' := 153) rfl ?_
        refine WP.iload d3_153 rfl (pc' := 155) rfl ?_
        refine WP.iconst d3_155 (z := (1 : Int32)) rfl (pc' := 156) rfl ?_
        refine WP.isub d3_156 (pc' := 157) rfl ?_
        rw [show (((0 : Int32) - (1 : Int32)) : Int32) = (-1 : Int32) from by decide]
        refine WP.iastore 0 d3_157 A_pv rfl (Nat.le_of_ble_eq_true rfl) g_pv (pc' := 158) rfl ?_
        intro h25 K26 A_n
        replace E_a := E_a.keep K26
        replace E_va := E_va.keep K26
        replace E_pr := E_pr.keep K26
        replace E_nx := E_nx.keep K26
        replace E_pv := E_pv.keep K26
        replace E_rm := E_rm.keep K26
        replace O_q := O_q.keep K26 (own_cons (by first | assumption | exact Ne.symm (by assumption) | exact Nat.ne_of_lt (by assumption) | exact Nat.ne_of_gt (by assumption)) own_nil)
        replace A_a := A_a.keep K26 (own_cons (by first | assumption | exact Ne.symm (by assumption) | exact Nat.ne_of_lt (by assumption) | exact Nat.ne_of_gt (by assumption)) own_nil)
        replace A_va := A_va.keep K26 (own_cons (by first | assumption | exact Ne.symm (by assumption) | exact Nat.ne_of_lt (by assumption) | exact Nat.ne_of_gt (by assumption)) own_nil)
        replace A_pr := A_pr.keep K26 (own_cons (by first | assumption | exact Ne.symm (by assumption) | exact Nat.ne_of_lt (by assumption) | exact Nat.ne_of_gt (by assumption)) own_nil)
        replace A_nx := A_nx.keep K26 (own_cons (by first | assumption | exact Ne.symm (by assumption) | exact Nat.ne_of_lt (by assumption) | exact Nat.ne_of_gt (by assumption)) own_nil)
        replace A_rm := A_rm.keep K26 (own_cons (by first | assumption | exact Ne.symm (by assumption) | exact Nat.ne_of_lt (by assumption) | exact Nat.ne_of_gt (by assumption)) own_nil)
        replace A_pv : Av Z h25 pv .int [(.int (-1 : Int32)), (.int 0), (.int 0)] := A_n
        clear A_n
        refine WP.iinc d3_158 (pc' := 161) rfl rfl (y := (1 : Int32)) (by decide) (ls' := #[.val (.ref q), .val (.ref a), .val .null, .val (.int (-1 : Int32)), .val (.int (3 : Int32)), .val (.int (1 : Int32))]) rfl ?_
        refine WP.goto d3_161 (pc' := 108) (by decide) ?_
        refine WP.iload d3_108 rfl (pc' := 110) rfl ?_
        refine WP.iload d3_110 rfl (pc' := 112) rfl ?_
        refine WP.icmpGe d3_112 (tgt := 164) (by decide) (pc' := 115) rfl (fun c112 => ?_) (fun c112 => ?_)
        · exfalso; omega
        refine WP.aloadN d3_115 rfl rfl (pc' := 116) rfl ?_
        refine WP.getf (i := 1) (v := (.ref pr)) d3_116 (w31 hw) O_q rfl rfl (pc' := 119) rfl ?_
        refine WP.iload d3_119 rfl (pc' := 121) rfl ?_
        refine WP.iconst d3_121 (z := (1 : Int32)) rfl (pc' := 122) rfl ?_
        refine WP.bastoreZ 1 d3_122 A_pr rfl (Nat.le_of_ble_eq_true rfl) g_pr (pc' := 123) rfl ?_
        intro h27 K28 A_n
        replace E_a := E_a.keep K28
        replace E_va := E_va.keep K28
        replace E_pr := E_pr.keep K28
        replace E_nx := E_nx.keep K28
        replace E_pv := E_pv.keep K28
        replace E_rm := E_rm.keep K28
        replace O_q := O_q.keep K28 (own_cons (by first | assumption | exact Ne.symm (by assumption) | exact Nat.ne_of_lt (by assumption) | exact Nat.ne_of_gt (by assumption)) own_nil)
        replace A_a := A_a.keep K28 (own_cons (by first | assumption | exact Ne.symm (by assumption) | exact Nat.ne_of_lt (by assumption) | exact Nat.ne_of_gt (by assumption)) own_nil)
        replace A_va := A_va.keep K28 (own_cons (by first | assumption | exact Ne.symm (by assumption) | exact Nat.ne_of_lt (by assumption) | exact Nat.ne_of_gt (by assumption)) own_nil)
        replace A_nx := A_nx.keep K28 (own_cons (by first | assumption | exact Ne.symm (by assumption) | exact Nat.ne_of_lt (by assumption) | exact Nat.ne_of_gt (by assumption)) own_nil)
        replace A_pv := A_pv.keep K28 (own_cons (by first | assumption | exact Ne.symm (by assumption) | exact Nat.ne_of_lt (by assumption) | exact Nat.ne_of_gt (by assumption)) own_nil)
        replace A_rm := A_rm.keep K28 (own_cons (by first | assumption | exact Ne.symm (by assumption) | exact Nat.ne_of_lt (by assumption) | exact Nat.ne_of_gt (by assumption)) own_nil)
        replace A_pr : Av Z h27 pr .boolean [(.int (nar .boolean (1 : Int32))), (.int (nar .boolean (1 : Int32))), (.int 0)] := A_n
        clear A_n
        refine WP.aloadN d3_123 rfl rfl (pc' := 124) rfl ?_
        refine WP.getf (i := 2) (v := (.ref nx)) d3_124 (w33 hw) O_q rfl rfl (pc' := 127) rfl ?_
        refine WP.iload d3_127 rfl (pc' := 129) rfl ?_
        refine WP.iload d3_129 rfl (pc' := 131) rfl ?_
        refine WP.iconst d3_131 (z := (1 : Int32)) rfl (pc' := 132) rfl ?_
        refine WP.iadd d3_132 (pc' := 133) rfl ?_
        rw [show (((1 : Int32) + (1 : Int32)) : Int32) = (2 : Int32) from by decide]
        refine WP.iload d3_133 rfl (pc' := 135) rfl ?_
        refine WP.icmpGe d3_135 (tgt := 145) (by decide) (pc' := 138) rfl (fun c135 => ?_) (fun c135 => ?_)
        · exfalso; omega
        refine WP.iload d3_138 rfl (pc' := 140) rfl ?_
        refine WP.iconst d3_140 (z := (1 : Int32)) rfl (pc' := 141) rfl ?_
        refine WP.iadd d3_141 (pc' := 142) rfl ?_
        rw [show (((1 : Int32) + (1 : Int32)) : Int32) = (2 : Int32) from by decide]
        refine WP.goto d3_142 (pc' := 146) (by decide) ?_
        refine WP.iastore 1 d3_146 A_nx rfl (Nat.le_of_ble_eq_true rfl) g_nx (pc' := 147) rfl ?_
        intro h29 K30 A_n
        replace E_a := E_a.keep K30
        replace E_va := E_va.keep K30
        replace E_pr := E_pr.keep K30
        replace E_nx := E_nx.keep K30
        replace E_pv := E_pv.keep K30
        replace E_rm := E_rm.keep K30
        replace O_q := O_q.keep K30 (own_cons (by first | assumption | exact Ne.symm (by assumption) | exact Nat.ne_of_lt (by assumption) | exact Nat.ne_of_gt (by assumption)) own_nil)
        replace A_a := A_a.keep K30 (own_cons (by first | assumption | exact Ne.symm (by assumption) | exact Nat.ne_of_lt (by assumption) | exact Nat.ne_of_gt (by assumption)) own_nil)
        replace A_va := A_va.keep K30 (own_cons (by first | assumption | exact Ne.symm (by assumption) | exact Nat.ne_of_lt (by assumption) | exact Nat.ne_of_gt (by assumption)) own_nil)
        replace A_pr := A_pr.keep K30 (own_cons (by first | assumption | exact Ne.symm (by assumption) | exact Nat.ne_of_lt (by assumption) | exact Nat.ne_of_gt (by assumption)) own_nil)
        replace A_pv := A_pv.keep K30 (own_cons (by first | assumption | exact Ne.symm (by assumption) | exact Nat.ne_of_lt (by assumption) | exact Nat.ne_of_gt (by assumption)) own_nil)
        replace A_rm := A_rm.keep K30 (own_cons (by first | assumption | exact Ne.symm (by assumption) | exact Nat.ne_of_lt (by assumption) | exact Nat.ne_of_gt (by assumption)) own_nil)
        replace A_nx : Av Z h29 nx .int [(.int (1 : Int32)), (.int (2 : Int32)), (.int 0)] := A_n
        clear A_n
        refine WP.aloadN d3_147 rfl rfl (pc' := 148) rfl ?_
        refine WP.getf (i := 3) (v := (.ref pv)) d3_148 (w35 hw) O_q rfl rfl (pc' := 151) rfl ?_
        refine WP.iload d3_151 rfl (pc' := 153) rfl ?_
        refine WP.iload d3_153 rfl (pc' := 155) rfl ?_
        refine WP.iconst d3_155 (z := (1 : Int32)) rfl (pc' := 156) rfl ?_
        refine WP.isub d3_156 (pc' := 157) rfl ?_
        rw [show (((1 : Int32) - (1 : Int32)) : Int32) = (0 : Int32) from by decide]
        refine WP.iastore 1 d3_157 A_pv rfl (Nat.le_of_ble_eq_true rfl) g_pv (pc' := 158) rfl ?_
        intro h31 K32 A_n
        replace E_a := E_a.keep K32
        replace E_va := E_va.keep K32
        replace E_pr := E_pr.keep K32
        replace E_nx := E_nx.keep K32
        replace E_pv := E_pv.keep K32
        replace E_rm := E_rm.keep K32
        replace O_q := O_q.keep K32 (own_cons (by first | assumption | exact Ne.symm (by assumption) | exact Nat.ne_of_lt (by assumption) | exact Nat.ne_of_gt (by assumption)) own_nil)
        replace A_a := A_a.keep K32 (own_cons (by first | assumption | exact Ne.symm (by assumption) | exact Nat.ne_of_lt (by assumption) | exact Nat.ne_of_gt (by assumption)) own_nil)
        replace A_va := A_va.keep K32 (own_cons (by first | assumption | exact Ne.symm (by assumption) | exact Nat.ne_of_lt (by assumption) | exact Nat.ne_of_gt (by assumption)) own_nil)
        replace A_pr := A_pr.keep K32 (own_cons (by first | assumption | exact Ne.symm (by assumption) | exact Nat.ne_of_lt (by assumption) | exact Nat.ne_of_gt (by assumption)) own_nil)
        replace A_nx := A_nx.keep K32 (own_cons (by first | assumption | exact Ne.symm (by assumption) | exact Nat.ne_of_lt (by assumption) | exact Nat.ne_of_gt (by assumption)) own_nil)
        replace A_rm := A_rm.keep K32 (own_cons (by first | assumption | exact Ne.symm (by assumption) | exact Nat.ne_of_lt (by assumption) | exact Nat.ne_of_gt (by assumption)) own_nil)
        replace A_pv : Av Z h31 pv .int [(.int (-1 : Int32)), (.int (0 : Int32)), (.int 0)] := A_n
        clear A_n
        refine WP.iinc d3_158 (pc' := 161) rfl rfl (y := (2 : Int32)) (by decide) (ls' := #[.val (.ref q), .val (.ref a), .val .null, .val (.int (-1 : Int32)), .val (.int (3 : Int32)), .val (.int (2 : Int32))]) rfl ?_
        refine WP.goto d3_161 (pc' := 108) (by decide) ?_
        refine WP.iload d3_108 rfl (pc' := 110) rfl ?_
        refine WP.iload d3_110 rfl (pc' := 112) rfl ?_
        refine WP.icmpGe d3_112 (tgt := 164) (by decide) (pc' := 115) rfl (fun c112 => ?_) (fun c112 => ?_)
        · exfalso; omega
        refine WP.aloadN d3_115 rfl rfl (pc' := 116) rfl ?_
        refine WP.getf (i := 1) (v := (.ref pr)) d3_116 (w31 hw) O_q rfl rfl (pc' := 119) rfl ?_
        refine WP.iload d3_119 rfl (pc' := 121) rfl ?_
        refine WP.iconst d3_121 (z := (1 : Int32)) rfl (pc' := 122) rfl ?_
        refine WP.bastoreZ 2 d3_122 A_pr rfl (Nat.le_of_ble_eq_true rfl) g_pr (pc' := 123) rfl ?_
        intro h33 K34 A_n
        replace E_a := E_a.keep K34
        replace E_va := E_va.keep K34
        replace E_pr := E_pr.keep K34
        replace E_nx := E_nx.keep K34
        replace E_pv := E_pv.keep K34
        replace E_rm := E_rm.keep K34
        replace O_q := O_q.keep K34 (own_cons (by first | assumption | exact Ne.symm (by assumption) | exact Nat.ne_of_lt (by assumption) | exact Nat.ne_of_gt (by assumption)) own_nil)
        replace A_a := A_a.keep K34 (own_cons (by first | assumption | exact Ne.symm (by assumption) | exact Nat.ne_of_lt (by assumption) | exact Nat.ne_of_gt (by assumption)) own_nil)
        replace A_va := A_va.keep K34 (own_cons (by first | assumption | exact Ne.symm (by assumption) | exact Nat.ne_of_lt (by assumption) | exact Nat.ne_of_gt (by assumption)) own_nil)
        replace A_nx := A_nx.keep K34 (own_cons (by first | assumption | exact Ne.symm (by assumption) | exact Nat.ne_of_lt (by assumption) | exact Nat.ne_of_gt (by assumption)) own_nil)
        replace A_pv := A_pv.keep K34 (own_cons (by first | assumption | exact Ne.symm (by assumption) | exact Nat.ne_of_lt (by assumption) | exact Nat.ne_of_gt (by assumption)) own_nil)
        replace A_rm := A_rm.keep K34 (own_cons (by first | assumption | exact Ne.symm (by assumption) | exact Nat.ne_of_lt (by assumption) | exact Nat.ne_of_gt (by assumption)) own_nil)
        replace A_pr : Av Z h33 pr .boolean [(.int (nar .boolean (1 : Int32))), (.int (nar .boolean (1 : Int32))), (.int (nar .boolean (1 : Int32)))] := A_n
        clear A_n
        refine WP.aloadN d3_123 rfl rfl (pc' := 124) rfl ?_
        refine WP.getf (i := 2) (v := (.ref nx)) d3_124 (w33 hw) O_q rfl rfl (pc' := 127) rfl ?_
        refine WP.iload d3_127 rfl (pc' := 129) rfl ?_
        refine WP.iload d3_129 rfl (pc' := 131) rfl ?_
        refine WP.iconst d3_131 (z := (1 : Int32)) rfl (pc' := 132) rfl ?_
        refine WP.iadd d3_132 (pc' := 133) rfl ?_
        rw [show (((2 : Int32) + (1 : Int32)) : Int32) = (3 : Int32) from by decide]
        refine WP.iload d3_133 rfl (pc' := 135) rfl ?_
        refine WP.icmpGe d3_135 (tgt := 145) (by decide) (pc' := 138) rfl (fun c135 => ?_) (fun c135 => ?_)
        ·
          refine WP.iconst d3_145 (z := (-1 : Int32)) rfl (pc' := 146) rfl ?_
          refine WP.iastore 2 d3_146 A_nx rfl (Nat.le_of_ble_eq_true rfl) g_nx (pc' := 147) rfl ?_
          intro h35 K36 A_n
          replace E_a := E_a.keep K36
          replace E_va := E_va.keep K36
          replace E_pr := E_pr.keep K36
          replace E_nx := E_nx.keep K36
          replace E_pv := E_pv.keep K36
          replace E_rm := E_rm.keep K36
          replace O_q := O_q.keep K36 (own_cons (by first | assumption | exact Ne.symm (by assumption) | exact Nat.ne_of_lt (by assumption) | exact Nat.ne_of_gt (by assumption)) own_nil)
          replace A_a := A_a.keep K36 (own_cons (by first | assumption | exact Ne.symm (by assumption) | exact Nat.ne_of_lt (by assumption) | exact Nat.ne_of_gt (by assumption)) own_nil)
          replace A_va := A_va.keep K36 (own_cons (by first | assumption | exact Ne.symm (by assumption) | exact Nat.ne_of_lt (by assumption) | exact Nat.ne_of_gt (by assumption)) own_nil)
          replace A_pr := A_pr.keep K36 (own_cons (by first | assumption | exact Ne.symm (by assumption) | exact Nat.ne_of_lt (by assumption) | exact Nat.ne_of_gt (by assumption)) own_nil)
          replace A_pv := A_pv.keep K36 (own_cons (by first | assumption | exact Ne.symm (by assumption) | exact Nat.ne_of_lt (by assumption) | exact Nat.ne_of_gt (by assumption)) own_nil)
          replace A_rm := A_rm.keep K36 (own_cons (by first | assumption | exact Ne.symm (by assumption) | exact Nat.ne_of_lt (by assumption) | exact Nat.ne_of_gt (by assumption)) own_nil)
          replace A_nx : Av Z h35 nx .int [(.int (1 : Int32)), (.int (2 : Int32)), (.int (-1 : Int32))] := A_n
          clear A_n
          refine WP.aloadN d3_147 rfl rfl (pc' := 148) rfl ?_
          refine WP.getf (i := 3) (v := (.ref pv)) d3_148 (w35 hw) O_q rfl rfl (pc' := 151) rfl ?_
          refine WP.iload d3_151 rfl (pc' := 153) rfl ?_
          refine WP.iload d3_153 rfl (pc' := 155) rfl ?_
          refine WP.iconst d3_155 (z := (1 : Int32)) rfl (pc' := 156) rfl ?_
          refine WP.isub d3_156 (pc' := 157) rfl ?_
          rw [show (((2 : Int32) - (1 : Int32)) : Int32) = (1 : Int32) from by decide]
          refine WP.iastore 2 d3_157 A_pv rfl (Nat.le_of_ble_eq_true rfl) g_pv (pc' := 158) rfl ?_
          intro h37 K38 A_n
          replace E_a := E_a.keep K38
          replace E_va := E_va.keep K38
          replace E_pr := E_pr.keep K38
          replace E_nx := E_nx.keep K38
          replace E_pv := E_pv.keep K38
          replace E_rm := E_rm.keep K38
          replace O_q := O_q.keep K38 (own_cons (by first | assumption | exact Ne.symm (by assumption) | exact Nat.ne_of_lt (by assumption) | exact Nat.ne_of_gt (by assumption)) own_nil)
          replace A_a := A_a.keep K38 (own_cons (by first | assumption | exact Ne.symm (by assumption) | exact Nat.ne_of_lt (by assumption) | exact Nat.ne_of_gt (by assumption)) own_nil)
          replace A_va := A_va.keep K38 (own_cons (by first | assumption | exact Ne.symm (by assumption) | exact Nat.ne_of_lt (by assumption) | exact Nat.ne_of_gt (by assumption)) own_nil)
          replace A_pr := A_pr.keep K38 (own_cons (by first | assumption | exact Ne.symm (by assumption) | exact Nat.ne_of_lt (by assumption) | exact Nat.ne_of_gt (by assumption)) own_nil)
          replace A_nx := A_nx.keep K38 (own_cons (by first | assumption | exact Ne.symm (by assumption) | exact Nat.ne_of_lt (by assumption) | exact Nat.ne_of_gt (by assumption)) own_nil)
          replace A_rm := A_rm.keep K38 (own_cons (by first | assumption | exact Ne.symm (by assumption) | exact Nat.ne_of_lt (by assumption) | exact Nat.ne_of_gt (by assumption)) own_nil)
          replace A_pv : Av Z h37 pv .int [(.int (-1 : Int32)), (.int (0 : Int32)), (.int (1 : Int32))] := A_n
          clear A_n
          refine WP.iinc d3_158 (pc' := 161) rfl rfl (y := (3 : Int32)) (by decide) (ls' := #[.val (.ref q), .val (.ref a), .val .null, .val (.int (-1 : Int32)), .val (.int (3 : Int32)), .val (.int (3 : Int32))]) rfl ?_
          refine WP.goto d3_161 (pc' := 108) (by decide) ?_
          refine WP.iload d3_108 rfl (pc' := 110) rfl ?_
          refine WP.iload d3_110 rfl (pc' := 112) rfl ?_
          refine WP.icmpGe d3_112 (tgt := 164) (by decide) (pc' := 115) rfl (fun c112 => ?_) (fun c112 => ?_)
          ·
            refine WP.aloadN d3_164 rfl rfl (pc' := 165) rfl ?_
            refine WP.iload d3_165 rfl (pc' := 167) rfl ?_
            refine WP.ifLe d3_167 (tgt := 174) (by decide) (pc' := 170) rfl (fun c167 => ?_) (fun c167 => ?_)
            · exfalso; omega
            refine WP.iconst d3_170 (z := (0 : Int32)) rfl (pc' := 171) rfl ?_
            refine WP.goto d3_171 (pc' := 175) (by decide) ?_
            refine WP.putf (i := 5) d3_175 (w39 hw) O_q (lay_DM hw) (by decide) rfl (Or.inl (w40 hw)) (w8 hw) (t := .int) (by decide) rfl rfl g_q (pc' := 178) rfl ?_
            intro h39 K40 O_n
            replace E_a := E_a.keep K40
            replace E_va := E_va.keep K40
            replace E_pr := E_pr.keep K40
            replace E_nx := E_nx.keep K40
            replace E_pv := E_pv.keep K40
            replace E_rm := E_rm.keep K40
            replace A_a := A_a.keep K40 (own_cons (by first | assumption | exact Ne.symm (by assumption) | exact Nat.ne_of_lt (by assumption) | exact Nat.ne_of_gt (by assumption)) own_nil)
            replace A_va := A_va.keep K40 (own_cons (by first | assumption | exact Ne.symm (by assumption) | exact Nat.ne_of_lt (by assumption) | exact Nat.ne_of_gt (by assumption)) own_nil)
            replace A_pr := A_pr.keep K40 (own_cons (by first | assumption | exact Ne.symm (by assumption) | exact Nat.ne_of_lt (by assumption) | exact Nat.ne_of_gt (by assumption)) own_nil)
            replace A_nx := A_nx.keep K40 (own_cons (by first | assumption | exact Ne.symm (by assumption) | exact Nat.ne_of_lt (by assumption) | exact Nat.ne_of_gt (by assumption)) own_nil)
            replace A_pv := A_pv.keep K40 (own_cons (by first | assumption | exact Ne.symm (by assumption) | exact Nat.ne_of_lt (by assumption) | exact Nat.ne_of_gt (by assumption)) own_nil)
            replace A_rm := A_rm.keep K40 (own_cons (by first | assumption | exact Ne.symm (by assumption) | exact Nat.ne_of_lt (by assumption) | exact Nat.ne_of_gt (by assumption)) own_nil)
            replace O_q : Ob Z h39 q "com/example/singlet/singlet/network/Domain" L_DM [(.ref va), (.ref pr), (.ref nx), (.ref pv), (.ref rm), (.int (0 : Int32)), (.int 0), .null, (.int 0)] := O_n
            clear O_n
            refine WP.aloadN d3_178 rfl rfl (pc' := 179) rfl ?_
            refine WP.iload d3_179 rfl (pc' := 181) rfl ?_
            refine WP.iconst d3_181 (z := (1 : Int32)) rfl (pc' := 182) rfl ?_
            refine WP.isub d3_182 (pc' := 183) rfl ?_
            rw [show (((3 : Int32) - (1 : Int32)) : Int32) = (2 : Int32) from by decide]
            refine WP.putf (i := 6) d3_183 (w41 hw) O_q (lay_DM hw) (by decide) rfl (Or.inl (w42 hw)) (w8 hw) (t := .int) (by decide) rfl rfl g_q (pc' := 186) rfl ?_
            intro h41 K42 O_n
            replace E_a := E_a.keep K42
            replace E_va := E_va.keep K42
            replace E_pr := E_pr.keep K42
            replace E_nx := E_nx.keep K42
            replace E_pv := E_pv.keep K42
            replace E_rm := E_rm.keep K42
            replace A_a := A_a.keep K42 (own_cons (by first | assumption | exact Ne.symm (by assumption) | exact Nat.ne_of_lt (by assumption) | exact Nat.ne_of_gt (by assumption)) own_nil)
            replace A_va := A_va.keep K42 (own_cons (by first | assumption | exact Ne.symm (by assumption) | exact Nat.ne_of_lt (by assumption) | exact Nat.ne_of_gt (by assumption)) own_nil)
            replace A_pr := A_pr.keep K42 (own_cons (by first | assumption | exact Ne.symm (by assumption) | exact Nat.ne_of_lt (by assumption) | exact Nat.ne_of_gt (by assumption)) own_nil)
            replace A_nx := A_nx.keep K42 (own_cons (by first | assumption | exact Ne.symm (by assumption) | exact Nat.ne_of_lt (by assumption) | exact Nat.ne_of_gt (by assumption)) own_nil)
            replace A_pv := A_pv.keep K42 (own_cons (by first | assumption | exact Ne.symm (by assumption) | exact Nat.ne_of_lt (by assumption) | exact Nat.ne_of_gt (by assumption)) own_nil)
            replace A_rm := A_rm.keep K42 (own_cons (by first | assumption | exact Ne.symm (by assumption) | exact Nat.ne_of_lt (by assumption) | exact Nat.ne_of_gt (by assumption)) own_nil)
            replace O_q : Ob Z h41 q "com/example/singlet/singlet/network/Domain" L_DM [(.ref va), (.ref pr), (.ref nx), (.ref pv), (.ref rm), (.int (0 : Int32)), (.int (2 : Int32)), .null, (.int 0)] := O_n
            clear O_n
            refine WP.aloadN d3_186 rfl rfl (pc' := 187) rfl ?_
            refine WP.aloadN d3_187 rfl rfl (pc' := 188) rfl ?_
            refine WP.putf (i := 7) d3_188 (w43 hw) O_q (lay_DM hw) (by decide) rfl (Or.inr ⟨(w44 hw), rfl, rfl⟩) (w8 hw) (t := (.object "com/example/singlet/singlet/network/Trail")) (by decide) rfl rfl g_q (pc' := 191) rfl ?_
            intro h43 K44 O_n
            replace E_a := E_a.keep K44
            replace E_va := E_va.keep K44
            replace E_pr := E_pr.keep K44
            replace E_nx := E_nx.keep K44
            replace E_pv := E_pv.keep K44
            replace E_rm := E_rm.keep K44
            replace A_a := A_a.keep K44 (own_cons (by first | assumption | exact Ne.symm (by assumption) | exact Nat.ne_of_lt (by assumption) | exact Nat.ne_of_gt (by assumption)) own_nil)
            replace A_va := A_va.keep K44 (own_cons (by first | assumption | exact Ne.symm (by assumption) | exact Nat.ne_of_lt (by assumption) | exact Nat.ne_of_gt (by assumption)) own_nil)
            replace A_pr := A_pr.keep K44 (own_cons (by first | assumption | exact Ne.symm (by assumption) | exact Nat.ne_of_lt (by assumption) | exact Nat.ne_of_gt (by assumption)) own_nil)
            replace A_nx := A_nx.keep K44 (own_cons (by first | assumption | exact Ne.symm (by assumption) | exact Nat.ne_of_lt (by assumption) | exact Nat.ne_of_gt (by assumption)) own_nil)
            replace A_pv := A_pv.keep K44 (own_cons (by first | assumption | exact Ne.symm (by assumption) | exact Nat.ne_of_lt (by assumption) | exact Nat.ne_of_gt (by assumption)) own_nil)
            replace A_rm := A_rm.keep K44 (own_cons (by first | assumption | exact Ne.symm (by assumption) | exact Nat.ne_of_lt (by assumption) | exact Nat.ne_of_gt (by assumption)) own_nil)
            replace O_q : Ob Z h43 q "com/example/singlet/singlet/network/Domain" L_DM [(.ref va), (.ref pr), (.ref nx), (.ref pv), (.ref rm), (.int (0 : Int32)), (.int (2 : Int32)), .null, (.int 0)] := O_n
            clear O_n
            refine WP.aloadN d3_191 rfl rfl (pc' := 192) rfl ?_
            refine WP.iloadN d3_192 rfl (pc' := 193) rfl ?_
            refine WP.putf (i := 8) d3_193 (w45 hw) O_q (lay_DM hw) (by decide) rfl (Or.inr ⟨(w46 hw), rfl, rfl⟩) (w8 hw) (t := .int) (by decide) rfl rfl g_q (pc' := 196) rfl ?_
            intro h45 K46 O_n
            replace E_a := E_a.keep K46
            replace E_va := E_va.keep K46
            replace E_pr := E_pr.keep K46
            replace E_nx := E_nx.keep K46
            replace E_pv := E_pv.keep K46
            replace E_rm := E_rm.keep K46
            replace A_a := A_a.keep K46 (own_cons (by first | assumption | exact Ne.symm (by assumption) | exact Nat.ne_of_lt (by assumption) | exact Nat.ne_of_gt (by assumption)) own_nil)
            replace A_va := A_va.keep K46 (own_cons (by first | assumption | exact Ne.symm (by assumption) | exact Nat.ne_of_lt (by assumption) | exact Nat.ne_of_gt (by assumption)) own_nil)
            replace A_pr := A_pr.keep K46 (own_cons (by first | assumption | exact Ne.symm (by assumption) | exact Nat.ne_of_lt (by assumption) | exact Nat.ne_of_gt (by assumption)) own_nil)
            replace A_nx := A_nx.keep K46 (own_cons (by first | assumption | exact Ne.symm (by assumption) | exact Nat.ne_of_lt (by assumption) | exact Nat.ne_of_gt (by assumption)) own_nil)
            replace A_pv := A_pv.keep K46 (own_cons (by first | assumption | exact Ne.symm (by assumption) | exact Nat.ne_of_lt (by assumption) | exact Nat.ne_of_gt (by assumption)) own_nil)
            replace A_rm := A_rm.keep K46 (own_cons (by first | assumption | exact Ne.symm (by assumption) | exact Nat.ne_of_lt (by assumption) | exact Nat.ne_of_gt (by assumption)) own_nil)
            replace O_q : Ob Z h45 q "com/example/singlet/singlet/network/Domain" L_DM [(.ref va), (.ref pr), (.ref nx), (.ref pv), (.ref rm), (.int (0 : Int32)), (.int (2 : Int32)), .null, (.int (-1 : Int32))] := O_n
            clear O_n
            exact WP.ret0 d3_196 rfl (by decide) (by decide) ⟨rfl, va, _, _, _, _, _, _, _, _, O_q, A_va⟩
          exfalso; omega
        exfalso; omega
      exfalso; omega
    exfalso; omega
  exfalso; omega
theorem c1_3 {l : Launch} {Z : State} {a0 : Array Value} (hw : HW Z a0) {n0 : Nat} {h : Heap} (q a : Addr) (y0 y1 y2 : Int32) (g_q : n0 ≤ q) (O_q : Ob Z h q "com/example/singlet/singlet/network/Domain" L_DM [.null, .null, .null, .null, .null, (.int 0), (.int 0), .null, (.int 0)]) (A_a : Av Z h a .int [(.int y0), (.int y1), (.int y2)]) (E_a : Exa Z h a "[I") (hs : y0.toInt < y1.toInt ∧ y1.toInt < y2.toInt) (n_qa : q ≠ a) : OMet l (⟨"com/example/singlet/singlet/network/Domain", "<init>", "([I)V"⟩ : MethodName) B2 Z n0 #[(.ref q), (.ref a)] h (fun v h' => v = none ∧ ∃ (va : Addr) (z1 z2 z3 z4 z5 z6 z7 z8 : Value), Ob Z h' q "com/example/singlet/singlet/network/Domain" L_DM [.ref va, z1, z2, z3, z4, z5, z6, z7, z8] ∧ Av Z h' va .int [(.int y0), (.int y1), (.int y2)]) := by
  refine OMet.of_wp (ls0 := #[.val (.ref q), .val (.ref a)]) pl2 rfl rfl (fun m => own_entry 0 rfl rfl) ?_
  have k32_m1 : (-1 : Int32).toInt = -1 := by decide
  refine WP.aloadN d2_0 rfl rfl (pc' := 1) rfl ?_
  refine WP.aloadN d2_1 rfl rfl (pc' := 2) rfl ?_
  refine WP.aconstNull d2_2 (pc' := 3) rfl ?_
  refine WP.iconst d2_3 (z := (-1 : Int32)) rfl (pc' := 4) rfl ?_
  refine WP.callI (a := q) (y := (⟨"com/example/singlet/singlet/network/Domain", "<init>", "([ILcom/example/singlet/singlet/network/Trail;I)V"⟩ : MethodName)) (By := B3) (as := [(.ref a), .null, (.int (-1 : Int32))]) (rest := []) d2_4 (w13 hw) (w14 hw) (w9 hw) (w15 hw) rfl rfl (by decide) (c2_3 hw q a y0 y1 y2 g_q O_q A_a E_a hs n_qa) pd_0 rfl rfl rfl (by decide) (Nat.le_of_ble_eq_true rfl) (by decide) (by decide) (pc' := 7) rfl ?_
  rintro _ h1 ⟨rfl, hQ⟩
  show WP _ _ _ _ _ _ _ _ _ _ []
  exact WP.ret0 d2_7 rfl (by decide) (by decide) ⟨rfl, hQ⟩
theorem fal_3 {l : Launch} {Z : State} {a0 : Array Value} (hw : HW Z a0) {n0 : Nat} {h : Heap} (q va : Addr) (t : Int64) (y0 y1 y2 : Int32) (z1 z2 z3 z4 z5 z6 z7 z8 : Value) (O_q : Ob Z h q "com/example/singlet/singlet/network/Domain" L_DM [.ref va, z1, z2, z3, z4, z5, z6, z7, z8]) (A_va : Av Z h va .int [(.int y0), (.int y1), (.int y2)]) (hs : y0.toInt < y1.toInt ∧ y1.toInt < y2.toInt) : OMet l (⟨"com/example/singlet/singlet/network/Domain", "firstAtLeast", "(J)I"⟩ : MethodName) B5 Z n0 #[(.ref q), (.long t)] h (fun v h' => h = h' ∧ ∃ r : Int32, v = some (.int r) ∧ 0 ≤ r.toInt ∧ r.toInt ≤ 3 ∧ ((y0.toInt < t.toInt ∧ 0 < r.toInt) ∨ (t.toInt ≤ y0.toInt ∧ r.toInt ≤ 0)) ∧ ((y1.toInt < t.toInt ∧ 1 < r.toInt) ∨ (t.toInt ≤ y1.toInt ∧ r.toInt ≤ 1)) ∧ ((y2.toInt < t.toInt ∧ 2 < r.toInt) ∨ (t.toInt ≤ y2.toInt ∧ r.toInt ≤ 2))) := by
  refine OMet.of_wp (ls0 := #[.val (.ref q), .val (.long t), .second, .unset, .unset, .unset]) pl5 rfl rfl (fun m => own_entry 3 rfl rfl) ?_
  have c_y0 := c_i2l y0
  have c_y1 := c_i2l y1
  have c_y2 := c_i2l y2
  have k32_0 : (0 : Int32).toInt = 0 := by decide
  have k32_1 : (1 : Int32).toInt = 1 := by decide
  have k32_2 : (2 : Int32).toInt = 2 := by decide
  have k32_3 : (3 : Int32).toInt = 3 := by decide
  have k32_5 : (5 : Int32).toInt = 5 := by decide
  refine WP.iconst d5_0 (z := (0 : Int32)) rfl (pc' := 1) rfl ?_
  refine WP.istoreN d5_1 (pc' := 2) rfl (ls' := #[.val (.ref q), .val (.long t), .second, .val (.int (0 : Int32)), .unset, .unset]) rfl ?_
  refine WP.aloadN d5_2 rfl rfl (pc' := 3) rfl ?_
  refine WP.getf (i := 0) (v := (.ref va)) d5_3 (w28 hw) O_q rfl rfl (pc' := 6) rfl ?_
  refine WP.alen d5_6 A_va (k := (3 : Int32)) rfl (pc' := 7) rfl ?_
  refine WP.istore d5_7 (pc' := 9) rfl (ls' := #[.val (.ref q), .val (.long t), .second, .val (.int (0 : Int32)), .val (.int (3 : Int32)), .unset]) rfl ?_
  refine WP.iloadN d5_9 rfl (pc' := 10) rfl ?_
  refine WP.iload d5_10 rfl (pc' := 12) rfl ?_
  refine WP.icmpGe d5_12 (tgt := 51) (by decide) (pc' := 15) rfl (fun c12 => ?_) (fun c12 => ?_)
  · exfalso; omega
  refine WP.iloadN d5_15 rfl (pc' := 16) rfl ?_
  refine WP.iload d5_16 rfl (pc' := 18) rfl ?_
  refine WP.iadd d5_18 (pc' := 19) rfl ?_
  rw [show (((0 : Int32) + (3 : Int32)) : Int32) = (3 : Int32) from by decide]
  refine WP.iconst d5_19 (z := (1 : Int32)) rfl (pc' := 20) rfl ?_
  refine WP.iushr d5_20 (pc' := 21) rfl ?_
  rw [show (ushr (3 : Int32) (1 : Int32)) = (1 : Int32) from by decide]
  refine WP.istore d5_21 (pc' := 23) rfl (ls' := #[.val (.ref q), .val (.long t), .second, .val (.int (0 : Int32)), .val (.int (3 : Int32)), .val (.int (1 : Int32))]) rfl ?_
  refine WP.aloadN d5_23 rfl rfl (pc' := 24) rfl ?_
  refine WP.getf (i := 0) (v := (.ref va)) d5_24 (w28 hw) O_q rfl rfl (pc' := 27) rfl ?_
  refine WP.iload d5_27 rfl (pc' := 29) rfl ?_
  refine WP.iaload 1 d5_29 A_va (x := y1) rfl rfl (pc' := 30) rfl ?_
  refine WP.i2l d5_30 (pc' := 31) rfl ?_
  refine WP.lloadN d5_31 rfl (pc' := 32) rfl ?_
  refine WP.lcmpGe d5_32 rfl d5_33 (tgt := 44) (by decide) (pc' := 36) rfl (fun c32 => ?_) (fun c32 => ?_)
  ·
    refine WP.iload d5_44 rfl (pc' := 46) rfl ?_
    refine WP.istore d5_46 (pc' := 48) rfl (ls' := #[.val (.ref q), .val (.long t), .second, .val (.int (0 : Int32)), .val (.int (1 : Int32)), .val (.int (1 : Int32))]) rfl ?_
    refine WP.goto d5_48 (pc' := 9) (by decide) ?_
    refine WP.iloadN d5_9 rfl (pc' := 10) rfl ?_
    refine WP.iload d5_10 rfl (pc' := 12) rfl ?_
    refine WP.icmpGe d5_12 (tgt := 51) (by decide) (pc' := 15) rfl (fun c12 => ?_) (fun c12 => ?_)
    · exfalso; omega
    refine WP.iloadN d5_15 rfl (pc' := 16) rfl ?_
    refine WP.iload d5_16 rfl (pc' := 18) rfl ?_
    refine WP.iadd d5_18 (pc' := 19) rfl ?_
    rw [show (((0 : Int32) + (1 : Int32)) : Int32) = (1 : Int32) from by decide]
    refine WP.iconst d5_19 (z := (1 : Int32)) rfl (pc' := 20) rfl ?_
    refine WP.iushr d5_20 (pc' := 21) rfl ?_
    rw [show (ushr (1 : Int32) (1 : Int32)) = (0 : Int32) from by decide]
    refine WP.istore d5_21 (pc' := 23) rfl (ls' := #[.val (.ref q), .val (.long t), .second, .val (.int (0 : Int32)), .val (.int (1 : Int32)), .val (.int (0 : Int32))]) rfl ?_
    refine WP.aloadN d5_23 rfl rfl (pc' := 24) rfl ?_
    refine WP.getf (i := 0) (v := (.ref va)) d5_24 (w28 hw) O_q rfl rfl (pc' := 27) rfl ?_
    refine WP.iload d5_27 rfl (pc' := 29) rfl ?_
    refine WP.iaload 0 d5_29 A_va (x := y0) rfl rfl (pc' := 30) rfl ?_
    refine WP.i2l d5_30 (pc' := 31) rfl ?_
    refine WP.lloadN d5_31 rfl (pc' := 32) rfl ?_
    refine WP.lcmpGe d5_32 rfl d5_33 (tgt := 44) (by decide) (pc' := 36) rfl (fun c32 => ?_) (fun c32 => ?_)
    ·
      refine WP.iload d5_44 rfl (pc' := 46) rfl ?_
      refine WP.istore d5_46 (pc' := 48) rfl (ls' := #[.val (.ref q), .val (.long t), .second, .val (.int (0 : Int32)), .val (.int (0 : Int32)), .val (.int (0 : Int32))]) rfl ?_
      refine WP.goto d5_48 (pc' := 9) (by decide) ?_
      refine WP.iloadN d5_9 rfl (pc' := 10) rfl ?_
      refine WP.iload d5_10 rfl (pc' := 12) rfl ?_
      refine WP.icmpGe d5_12 (tgt := 51) (by decide) (pc' := 15) rfl (fun c12 => ?_) (fun c12 => ?_)
      ·
        refine WP.iloadN d5_51 rfl (pc' := 52) rfl ?_
        exact WP.retI d5_52 rfl (by decide) (by decide) ⟨rfl, _, rfl, by omega, by omega, by refine ⟨?_, ?_, ?_⟩ <;> omega⟩
      exfalso; omega
    refine WP.iload d5_36 rfl (pc' := 38) rfl ?_
    refine WP.iconst d5_38 (z := (1 : Int32)) rfl (pc' := 39) rfl ?_
    refine WP.iadd d5_39 (pc' := 40) rfl ?_
    rw [show (((0 : Int32) + (1 : Int32)) : Int32) = (1 : Int32) from by decide]
    refine WP.istoreN d5_40 (pc' := 41) rfl (ls' := #[.val (.ref q), .val (.long t), .second, .val (.int (1 : Int32)), .val (.int (1 : Int32)), .val (.int (0 : Int32))]) rfl ?_
    refine WP.goto d5_41 (pc' := 48) (by decide) ?_
    refine WP.goto d5_48 (pc' := 9) (by decide) ?_
    refine WP.iloadN d5_9 rfl (pc' := 10) rfl ?_
    refine WP.iload d5_10 rfl (pc' := 12) rfl ?_
    refine WP.icmpGe d5_12 (tgt := 51) (by decide) (pc' := 15) rfl (fun c12 => ?_) (fun c12 => ?_)
    ·
      refine WP.iloadN d5_51 rfl (pc' := 52) rfl ?_
      exact WP.retI d5_52 rfl (by decide) (by decide) ⟨rfl, _, rfl, by omega, by omega, by refine ⟨?_, ?_, ?_⟩ <;> omega⟩
    exfalso; omega
  refine WP.iload d5_36 rfl (pc' := 38) rfl ?_
  refine WP.iconst d5_38 (z := (1 : Int32)) rfl (pc' := 39) rfl ?_
  refine WP.iadd d5_39 (pc' := 40) rfl ?_
  rw [show (((1 : Int32) + (1 : Int32)) : Int32) = (2 : Int32) from by decide]
  refine WP.istoreN d5_40 (pc' := 41) rfl (ls' := #[.val (.ref q), .val (.long t), .second, .val (.int (2 : Int32)), .val (.int (3 : Int32)), .val (.int (1 : Int32))]) rfl ?_
  refine WP.goto d5_41 (pc' := 48) (by decide) ?_
  refine WP.goto d5_48 (pc' := 9) (by decide) ?_
  refine WP.iloadN d5_9 rfl (pc' := 10) rfl ?_
  refine WP.iload d5_10 rfl (pc' := 12) rfl ?_
  refine WP.icmpGe d5_12 (tgt := 51) (by decide) (pc' := 15) rfl (fun c12 => ?_) (fun c12 => ?_)
  · exfalso; omega
  refine WP.iloadN d5_15 rfl (pc' := 16) rfl ?_
  refine WP.iload d5_16 rfl (pc' := 18) rfl ?_
  refine WP.iadd d5_18 (pc' := 19) rfl ?_
  rw [show (((2 : Int32) + (3 : Int32)) : Int32) = (5 : Int32) from by decide]
  refine WP.iconst d5_19 (z := (1 : Int32)) rfl (pc' := 20) rfl ?_
  refine WP.iushr d5_20 (pc' := 21) rfl ?_
  rw [show (ushr (5 : Int32) (1 : Int32)) = (2 : Int32) from by decide]
  refine WP.istore d5_21 (pc' := 23) rfl (ls' := #[.val (.ref q), .val (.long t), .second, .val (.int (2 : Int32)), .val (.int (3 : Int32)), .val (.int (2 : Int32))]) rfl ?_
  refine WP.aloadN d5_23 rfl rfl (pc' := 24) rfl ?_
  refine WP.getf (i := 0) (v := (.ref va)) d5_24 (w28 hw) O_q rfl rfl (pc' := 27) rfl ?_
  refine WP.iload d5_27 rfl (pc' := 29) rfl ?_
  refine WP.iaload 2 d5_29 A_va (x := y2) rfl rfl (pc' := 30) rfl ?_
  refine WP.i2l d5_30 (pc' := 31) rfl ?_
  refine WP.lloadN d5_31 rfl (pc' := 32) rfl ?_
  refine WP.lcmpGe d5_32 rfl d5_33 (tgt := 44) (by decide) (pc' := 36) rfl (fun c32 => ?_) (fun c32 => ?_)
  ·
    refine WP.iload d5_44 rfl (pc' := 46) rfl ?_
    refine WP.istore d5_46 (pc' := 48) rfl (ls' := #[.val (.ref q), .val (.long t), .second, .val (.int (2 : Int32)), .val (.int (2 : Int32)), .val (.int (2 : Int32))]) rfl ?_
    refine WP.goto d5_48 (pc' := 9) (by decide) ?_
    refine WP.iloadN d5_9 rfl (pc' := 10) rfl ?_
    refine WP.iload d5_10 rfl (pc' := 12) rfl ?_
    refine WP.icmpGe d5_12 (tgt := 51) (by decide) (pc' := 15) rfl (fun c12 => ?_) (fun c12 => ?_)
    ·
      refine WP.iloadN d5_51 rfl (pc' := 52) rfl ?_
      exact WP.retI d5_52 rfl (by decide) (by decide) ⟨rfl, _, rfl, by omega, by omega, by refine ⟨?_, ?_, ?_⟩ <;> omega⟩
    exfalso; omega
  refine WP.iload d5_36 rfl (pc' := 38) rfl ?_
  refine WP.iconst d5_38 (z := (1 : Int32)) rfl (pc' := 39) rfl ?_
  refine WP.iadd d5_39 (pc' := 40) rfl ?_
  rw [show (((2 : Int32) + (1 : Int32)) : Int32) = (3 : Int32) from by decide]
  refine WP.istoreN d5_40 (pc' := 41) rfl (ls' := #[.val (.ref q), .val (.long t), .second, .val (.int (3 : Int32)), .val (.int (3 : Int32)), .val (.int (2 : Int32))]) rfl ?_
  refine WP.goto d5_41 (pc' := 48) (by decide) ?_
  refine WP.goto d5_48 (pc' := 9) (by decide) ?_
  refine WP.iloadN d5_9 rfl (pc' := 10) rfl ?_
  refine WP.iload d5_10 rfl (pc' := 12) rfl ?_
  refine WP.icmpGe d5_12 (tgt := 51) (by decide) (pc' := 15) rfl (fun c12 => ?_) (fun c12 => ?_)
  ·
    refine WP.iloadN d5_51 rfl (pc' := 52) rfl ?_
    exact WP.retI d5_52 rfl (by decide) (by decide) ⟨rfl, _, rfl, by omega, by omega, by refine ⟨?_, ?_, ?_⟩ <;> omega⟩
  exfalso; omega
theorem c2_4 {l : Launch} {Z : State} {a0 : Array Value} (hw : HW Z a0) {n0 : Nat} {h : Heap} (q a : Addr) (y0 y1 y2 y3 : Int32) (g_q : n0 ≤ q) (O_q : Ob Z h q "com/example/singlet/singlet/network/Domain" L_DM [.null, .null, .null, .null, .null, (.int 0), (.int 0), .null, (.int 0)]) (A_a : Av Z h a .int [(.int y0), (.int y1), (.int y2), (.int y3)]) (E_a : Exa Z h a "[I") (hs : y0.toInt < y1.toInt ∧ y1.toInt < y2.toInt ∧ y2.toInt < y3.toInt) (n_qa : q ≠ a) : OMet l (⟨"com/example/singlet/singlet/network/Domain", "<init>", "([ILcom/example/singlet/singlet/network/Trail;I)V"⟩ : MethodName) B3 Z n0 #[(.ref q), (.ref a), .null, (.int (-1 : Int32))] h (fun v h' => v = none ∧ ∃ (va : Addr) (z1 z2 z3 z4 z5 z6 z7 z8 : Value), Ob Z h' q "com/example/singlet/singlet/network/Domain" L_DM [.ref va, z1, z2, z3, z4, z5, z6, z7, z8] ∧ Av Z h' va .int [(.int y0), (.int y1), (.int y2), (.int y3)]) := by
  refine OMet.of_wp (ls0 := #[.val (.ref q), .val (.ref a), .val .null, .val (.int (-1 : Int32)), .unset, .unset]) pl3 rfl rfl (fun m => own_entry 2 rfl rfl) ?_
  have k32_m1 : (-1 : Int32).toInt = -1 := by decide
  have k32_0 : (0 : Int32).toInt = 0 := by decide
  have k32_1 : (1 : Int32).toInt = 1 := by decide
  have k32_2 : (2 : Int32).toInt = 2 := by decide
  have k32_3 : (3 : Int32).toInt = 3 := by decide
  have k32_4 : (4 : Int32).toInt = 4 := by decide
  refine WP.aloadN d3_0 rfl rfl (pc' := 1) rfl ?_
  refine WP.initO (a := q) d3_1 (w16 hw) (w17 hw) (w18 hw) rfl (by decide) (Nat.le_of_ble_eq_true rfl) (pc' := 4) rfl ?_
  refine WP.iconst d3_4 (z := (1 : Int32)) rfl (pc' := 5) rfl ?_
  refine WP.istore d3_5 (pc' := 7) rfl (ls' := #[.val (.ref q), .val (.ref a), .val .null, .val (.int (-1 : Int32)), .val (.int (1 : Int32)), .unset]) rfl ?_
  refine WP.iload d3_7 rfl (pc' := 9) rfl ?_
  refine WP.aloadN d3_9 rfl rfl (pc' := 10) rfl ?_
  refine WP.alen d3_10 A_a (k := (4 : Int32)) rfl (pc' := 11) rfl ?_
  refine WP.icmpGe d3_11 (tgt := 58) (by decide) (pc' := 14) rfl (fun c11 => ?_) (fun c11 => ?_)
  · exfalso; omega
  refine WP.aloadN d3_14 rfl rfl (pc' := 15) rfl ?_
  refine WP.iload d3_15 rfl (pc' := 17) rfl ?_
  refine WP.iconst d3_17 (z := (1 : Int32)) rfl (pc' := 18) rfl ?_
  refine WP.isub d3_18 (pc' := 19) rfl ?_
  rw [show (((1 : Int32) - (1 : Int32)) : Int32) = (0 : Int32) from by decide]
  refine WP.iaload 0 d3_19 A_a (x := y0) rfl rfl (pc' := 20) rfl ?_
  refine WP.aloadN d3_20 rfl rfl (pc' := 21) rfl ?_
  refine WP.iload d3_21 rfl (pc' := 23) rfl ?_
  refine WP.iaload 1 d3_23 A_a (x := y1) rfl rfl (pc' := 24) rfl ?_
  refine WP.icmpLt d3_24 (tgt := 52) (by decide) (pc' := 27) rfl (fun c24 => ?_) (fun c24 => ?_)
  ·
    refine WP.iinc d3_52 (pc' := 55) rfl rfl (y := (2 : Int32)) (by decide) (ls' := #[.val (.ref q), .val (.ref a), .val .null, .val (.int (-1 : Int32)), .val (.int (2 : Int32)), .unset]) rfl ?_
    refine WP.goto d3_55 (pc' := 7) (by decide) ?_
    refine WP.iload d3_7 rfl (pc' := 9) rfl ?_
    refine WP.aloadN d3_9 rfl rfl (pc' := 10) rfl ?_
    refine WP.alen d3_10 A_a (k := (4 : Int32)) rfl (pc' := 11) rfl ?_
    refine WP.icmpGe d3_11 (tgt := 58) (by decide) (pc' := 14) rfl (fun c11 => ?_) (fun c11 => ?_)
    · exfalso; omega
    refine WP.aloadN d3_14 rfl rfl (pc' := 15) rfl ?_
    refine WP.iload d3_15 rfl (pc' := 17) rfl ?_
    refine WP.iconst d3_17 (z := (1 : Int32)) rfl (pc' := 18) rfl ?_
    refine WP.isub d3_18 (pc' := 19) rfl ?_
    rw [show (((2 : Int32) - (1 : Int32)) : Int32) = (1 : Int32) from by decide]
    refine WP.iaload 1 d3_19 A_a (x := y1) rfl rfl (pc' := 20) rfl ?_
    refine WP.aloadN d3_20 rfl rfl (pc' := 21) rfl ?_
    refine WP.iload d3_21 rfl (pc' := 23) rfl ?_
    refine WP.iaload 2 d3_23 A_a (x := y2) rfl rfl (pc' := 24) rfl ?_
    refine WP.icmpLt d3_24 (tgt := 52) (by decide) (pc' := 27) rfl (fun c24 => ?_) (fun c24 => ?_)
    ·
      refine WP.iinc d3_52 (pc' := 55) rfl rfl (y := (3 : Int32)) (by decide) (ls' := #[.val (.ref q), .val (.ref a), .val .null, .val (.int (-1 : Int32)), .val (.int (3 : Int32)), .unset]) rfl ?_
      refine WP.goto d3_55 (pc' := 7) (by decide) ?_
      refine WP.iload d3_7 rfl (pc' := 9) rfl ?_
      refine WP.aloadN d3_9 rfl rfl (pc' := 10) rfl ?_
      refine WP.alen d3_10 A_a (k := (4 : Int32)) rfl (pc' := 11) rfl ?_
      refine WP.icmpGe d3_11 (tgt := 58) (by decide) (pc' := 14) rfl (fun c11 => ?_) (fun c11 => ?_)
      · exfalso; omega
      refine WP.aloadN d3_14 rfl rfl (pc' := 15) rfl ?_
      refine WP.iload d3_15 rfl (pc' := 17) rfl ?_
      refine WP.iconst d3_17 (z := (1 : Int32)) rfl (pc' := 18) rfl ?_
      refine WP.isub d3_18 (pc' := 19) rfl ?_
      rw [show (((3 : Int32) - (1 : Int32)) : Int32) = (2 : Int32) from by decide]
      refine WP.iaload 2 d3_19 A_a (x := y2) rfl rfl (pc' := 20) rfl ?_
      refine WP.aloadN d3_20 rfl rfl (pc' := 21) rfl ?_
      refine WP.iload d3_21 rfl (pc' := 23) rfl ?_
      refine WP.iaload 3 d3_23 A_a (x := y3) rfl rfl (pc' := 24) rfl ?_
      refine WP.icmpLt d3_24 (tgt := 52) (by decide) (pc' := 27) rfl (fun c24 => ?_) (fun c24 => ?_)
      ·
        refine WP.iinc d3_52 (pc' := 55) rfl rfl (y := (4 : Int32)) (by decide) (ls' := #[.val (.ref q), .val (.ref a), .val .null, .val (.int (-1 : Int32)), .val (.int (4 : Int32)), .unset]) rfl ?_
        refine WP.goto d3_55 (pc' := 7) (by decide) ?_
        refine WP.iload d3_7 rfl (pc' := 9) rfl ?_
        refine WP.aloadN d3_9 rfl rfl (pc' := 10) rfl ?_
        refine WP.alen d3_10 A_a (k := (4 : Int32)) rfl (pc' := 11) rfl ?_
        refine WP.icmpGe d3_11 (tgt := 58) (by decide) (pc' := 14) rfl (fun c11 => ?_) (fun c11 => ?_)
        ·
          refine WP.aloadN d3_58 rfl rfl (pc' := 59) rfl ?_
          refine WP.alen d3_59 A_a (k := (4 : Int32)) rfl (pc' := 60) rfl ?_
          refine WP.istore d3_60 (pc' := 62) rfl (ls' := #[.val (.ref q), .val (.ref a), .val .null, .val (.int (-1 : Int32)), .val (.int (4 : Int32)), .unset]) rfl ?_
          refine WP.aloadN d3_62 rfl rfl (pc' := 63) rfl ?_
          refine WP.aloadN d3_63 rfl rfl (pc' := 64) rfl ?_
          refine WP.aclone (ad := "[I") d3_64 (w19 hw) (w20 hw) (w24 hw) (w22 hw) (w23 hw) (w25 hw) A_a E_a (fun q v hv => by have hm := List.mem_of_getElem? hv; simp only [List.mem_cons, List.not_mem_nil, or_false] at hm; rcases hm with rfl | rfl | rfl | rfl <;> rfl) rfl (by decide) (Nat.le_of_ble_eq_true rfl) 4 (Nat.le_of_ble_eq_true rfl) (by decide) (by decide) (pc' := 67) rfl ?_
          intro va h1 eb_va g_va K2 A_va E_va
          have lt_q_va : q < va := by rw [eb_va]; exact O_q.lt
          have lt_a_va : a < va := by rw [eb_va]; exact A_a.lt
          replace E_a := E_a.keep K2
          replace O_q := O_q.keep K2 own_nil
          replace A_a := A_a.keep K2 own_nil
          refine WP.cast d3_67 (w26 hw) (Ins.self E_va) (pc' := 70) rfl ?_
          refine WP.putf (i := 0) d3_70 (w28 hw) O_q (lay_DM hw) (by decide) rfl (Or.inr ⟨(w29 hw), rfl, rfl⟩) (w8 hw) (t := (.array .int)) (by decide) rfl rfl g_q (pc' := 73) rfl ?_
          intro h3 K4 O_n
          replace E_a := E_a.keep K4
          replace E_va := E_va.keep K4
          replace A_a := A_a.keep K4 (own_cons (by first | assumption | exact Ne.symm (by assumption) | exact Nat.ne_of_lt (by assumption) | exact Nat.ne_of_gt (by assumption)) own_nil)
          replace A_va := A_va.keep K4 (own_cons (by first | assumption | exact Ne.symm (by assumption) | exact Nat.ne_of_lt (by assumption) | exact Nat.ne_of_gt (by assumption)) own_nil)
          replace O_q : Ob Z h3 q "com/example/singlet/singlet/network/Domain" L_DM [(.ref va), .null, .null, .null, .null, (.int 0), (.int 0), .null, (.int 0)] := O_n
          clear O_n
          refine WP.aloadN d3_73 rfl rfl (pc' := 74) rfl ?_
          refine WP.iload d3_74 rfl (pc' := 76) rfl ?_
          refine WP.newarrE d3_76 (w30 hw) (k := 4) rfl 4 (by decide) (by decide) (by decide) (by decide) (ad := "[Z") (by decide) (pc' := 78) rfl ?_
          intro pr h5 eb_pr g_pr K6 A_pr E_pr
          replace A_pr : Av Z h5 pr .boolean [.int 0, .int 0, .int 0, .int 0] := A_pr
          have lt_q_pr : q < pr := by rw [eb_pr]; exact O_q.lt
          have lt_a_pr : a < pr := by rw [eb_pr]; exact A_a.lt
          have lt_va_pr : va < pr := by rw [eb_pr]; exact A_va.lt
          replace E_a := E_a.keep K6
          replace E_va := E_va.keep K6
          replace O_q := O_q.keep K6 own_nil
          replace A_a := A_a.keep K6 own_nil
          replace A_va := A_va.keep K6 own_nil
          refine WP.putf (i := 1) d3_78 (w31 hw) O_q (lay_DM hw) (by decide) rfl (Or.inr ⟨(w32 hw), rfl, rfl⟩) (w8 hw) (t := (.array .boolean)) (by decide) rfl rfl g_q (pc' := 81) rfl ?_
          intro h7 K8 O_n
          replace E_a := E_a.keep K8
          replace E_va := E_va.keep K8
          replace E_pr := E_pr.keep K8
          replace A_a := A_a.keep K8 (own_cons (by first | assumption | exact Ne.symm (by assumption) | exact Nat.ne_of_lt (by assumption) | exact Nat.ne_of_gt (by assumption)) own_nil)
          replace A_va := A_va.keep K8 (own_cons (by first | assumption | exact Ne.symm (by assumption) | exact Nat.ne_of_lt (by assumption) | exact Nat.ne_of_gt (by assumption)) own_nil)
          replace A_pr := A_pr.keep K8 (own_cons (by first | assumption | exact Ne.symm (by assumption) | exact Nat.ne_of_lt (by assumption) | exact Nat.ne_of_gt (by assumption)) own_nil)
          replace O_q : Ob Z h7 q "com/example/singlet/singlet/network/Domain" L_DM [(.ref va), (.ref pr), .null, .null, .null, (.int 0), (.int 0), .null, (.int 0)] := O_n
          clear O_n
          refine WP.aloadN d3_81 rfl rfl (pc' := 82) rfl ?_
          refine WP.iload d3_82 rfl (pc' := 84) rfl ?_
          refine WP.newarrE d3_84 (w2 hw) (k := 4) rfl 4 (by decide) (by decide) (by decide) (by decide) (ad := "[I") (by decide) (pc' := 86) rfl ?_
          intro nx h9 eb_nx g_nx K10 A_nx E_nx
          replace A_nx : Av Z h9 nx .int [.int 0, .int 0, .int 0, .int 0] := A_nx
          have lt_q_nx : q < nx := by rw [eb_nx]; exact O_q.lt
          have lt_a_nx : a < nx := by rw [eb_nx]; exact A_a.lt
          have lt_va_nx : va < nx := by rw [eb_nx]; exact A_va.lt
          have lt_pr_nx : pr < nx := by rw [eb_nx]; exact A_pr.lt
          replace E_a := E_a.keep K10
          replace E_va := E_va.keep K10
          replace E_pr := E_pr.keep K10
          replace O_q := O_q.keep K10 own_nil
          replace A_a := A_a.keep K10 own_nil
          replace A_va := A_va.keep K10 own_nil
          replace A_pr := A_pr.keep K10 own_nil
          refine WP.putf (i := 2) d3_86 (w33 hw) O_q (lay_DM hw) (by decide) rfl (Or.inr ⟨(w34 hw), rfl, rfl⟩) (w8 hw) (t := (.array .int)) (by decide) rfl rfl g_q (pc' := 89) rfl ?_
          intro h11 K12 O_n
          replace E_a := E_a.keep K12
          replace E_va := E_va.keep K12
          replace E_pr := E_pr.keep K12
          replace E_nx := E_nx.keep K12
          replace A_a := A_a.keep K12 (own_cons (by first | assumption | exact Ne.symm (by assumption) | exact Nat.ne_of_lt (by assumption) | exact Nat.ne_of_gt (by assumption)) own_nil)
          replace A_va := A_va.keep K12 (own_cons (by first | assumption | exact Ne.symm (by assumption) | exact Nat.ne_of_lt (by assumption) | exact Nat.ne_of_gt (by assumption)) own_nil)
          replace A_pr := A_pr.keep K12 (own_cons (by first | assumption | exact Ne.symm (by assumption) | exact Nat.ne_of_lt (by assumption) | exact Nat.ne_of_gt (by assumption)) own_nil)
          replace A_nx := A_nx.keep K12 (own_cons (by first | assumption | exact Ne.symm (by assumption) | exact Nat.ne_of_lt (by assumption) | exact Nat.ne_of_gt (by assumption)) own_nil)
          replace O_q : Ob Z h11 q "com/example/singlet/singlet/network/Domain" L_DM [(.ref va), (.ref pr), (.ref nx), .null, .null, (.int 0), (.int 0), .null, (.int 0)] := O_n
          clear O_n
          refine WP.aloadN d3_89 rfl rfl (pc' := 90) rfl ?_
          refine WP.iload d3_90 rfl (pc' := 92) rfl ?_
          refine WP.newarrE d3_92 (w2 hw) (k := 4) rfl 4 (by decide) (by decide) (by decide) (by decide) (ad := "[I") (by decide) (pc' := 94) rfl ?_
          intro pv h13 eb_pv g_pv K14 A_pv E_pv
          replace A_pv : Av Z h13 pv .int [.int 0, .int 0, .int 0, .int 0] := A_pv
          have lt_q_pv : q < pv := by rw [eb_pv]; exact O_q.lt
          have lt_a_pv : a < pv := by rw [eb_pv]; exact A_a.lt
          have lt_va_pv : va < pv := by rw [eb_pv]; exact A_va.lt
          have lt_pr_pv : pr < pv := by rw [eb_pv]; exact A_pr.lt
          have lt_nx_pv : nx < pv := by rw [eb_pv]; exact A_nx.lt
          replace E_a := E_a.keep K14
          replace E_va := E_va.keep K14
          replace E_pr := E_pr.keep K14
          replace E_nx := E_nx.keep K14
          replace O_q := O_q.keep K14 own_nil
          replace A_a := A_a.keep K14 own_nil
          replace A_va := A_va.keep K14 own_nil
          replace A_pr := A_pr.keep K14 own_nil
          replace A_nx := A_nx.keep K14 own_nil
          refine WP.putf (i := 3) d3_94 (w35 hw) O_q (lay_DM hw) (by decide) rfl (Or.inr ⟨(w36 hw), rfl, rfl⟩) (w8 hw) (t := (.array .int)) (by decide) rfl rfl g_q (pc' := 97) rfl ?_
          intro h15 K16 O_n
          replace E_a := E_a.keep K16
          replace E_va := E_va.keep K16
          replace E_pr := E_pr.keep K16
          replace E_nx := E_nx.keep K16
          replace E_pv := E_pv.keep K16
          replace A_a := A_a.keep K16 (own_cons (by first | assumption | exact Ne.symm (by assumption) | exact Nat.ne_of_lt (by assumption) | exact Nat.ne_of_gt (by assumption)) own_nil)
          replace A_va := A_va.keep K16 (own_cons (by first | assumption | exact Ne.symm (by assumption) | exact Nat.ne_of_lt (by assumption) | exact Nat.ne_of_gt (by assumption)) own_nil)
          replace A_pr := A_pr.keep K16 (own_cons (by first | assumption | exact Ne.symm (by assumption) | exact Nat.ne_of_lt (by assumption) | exact Nat.ne_of_gt (by assumption)) own_nil)
          replace A_nx := A_nx.keep K16 (own_cons (by first | assumption | exact Ne.symm (by assumption) | exact Nat.ne_of_lt (by assumption) | exact Nat.ne_of_gt (by assumption)) own_nil)
          replace A_pv := A_pv.keep K16 (own_cons (by first | assumption | exact Ne.symm (by assumption) | exact Nat.ne_of_lt (by assumption) | exact Nat.ne_of_gt (by assumption)) own_nil)
          replace O_q : Ob Z h15 q "com/example/singlet/singlet/network/Domain" L_DM [(.ref va), (.ref pr), (.ref nx), (.ref pv), .null, (.int 0), (.int 0), .null, (.int 0)] := O_n
          clear O_n
          refine WP.aloadN d3_97 rfl rfl (pc' := 98) rfl ?_
          refine WP.iload d3_98 rfl (pc' := 100) rfl ?_
          refine WP.newarrE d3_100 (w2 hw) (k := 4) rfl 4 (by decide) (by decide) (by decide) (by decide) (ad := "[I") (by decide) (pc' := 102) rfl ?_
          intro rm h17 eb_rm g_rm K18 A_rm E_rm
          replace A_rm : Av Z h17 rm .int [.int 0, .int 0, .int 0, .int 0] := A_rm
          have lt_q_rm : q < rm := by rw [eb_rm]; exact O_q.lt
          have lt_a_rm : a < rm := by rw [eb_rm]; exact A_a.lt
          have lt_va_rm : va < rm := by rw [eb_rm]; exact A_va.lt
          have lt_pr_rm : pr < rm := by rw [eb_rm]; exact A_pr.lt
          have lt_nx_rm : nx < rm := by rw [eb_rm]; exact A_nx.lt
          have lt_pv_rm : pv < rm := by rw [eb_rm]; exact A_pv.lt
          replace E_a := E_a.keep K18
          replace E_va := E_va.keep K18
          replace E_pr := E_pr.keep K18
          replace E_nx := E_nx.keep K18
          replace E_pv := E_pv.keep K18
          replace O_q := O_q.keep K18 own_nil
          replace A_a := A_a.keep K18 own_nil
          replace A_va := A_va.keep K18 own_nil
          replace A_pr := A_pr.keep K18 own_nil
          replace A_nx := A_nx.keep K18 own_nil
          replace A_pv := A_pv.keep K18 own_nil
          refine WP.putf (i := 4) d3_102 (w37 hw) O_q (lay_DM hw) (by decide) rfl (Or.inr ⟨(w38 hw), rfl, rfl⟩) (w8 hw) (t := (.array .int)) (by decide) rfl rfl g_q (pc' := 105) rfl ?_
          intro h19 K20 O_n
          replace E_a := E_a.keep K20
          replace E_va := E_va.keep K20
          replace E_pr := E_pr.keep K20
          replace E_nx := E_nx.keep K20
          replace E_pv := E_pv.keep K20
          replace E_rm := E_rm.keep K20
          replace A_a := A_a.keep K20 (own_cons (by first | assumption | exact Ne.symm (by assumption) | exact Nat.ne_of_lt (by assumption) | exact Nat.ne_of_gt (by assumption)) own_nil)
          replace A_va := A_va.keep K20 (own_cons (by first | assumption | exact Ne.symm (by assumption) | exact Nat.ne_of_lt (by assumption) | exact Nat.ne_of_gt (by assumption)) own_nil)
          replace A_pr := A_pr.keep K20 (own_cons (by first | assumption | exact Ne.symm (by assumption) | exact Nat.ne_of_lt (by assumption) | exact Nat.ne_of_gt (by assumption)) own_nil)
          replace A_nx := A_nx.keep K20 (own_cons (by first | assumption | exact Ne.symm (by assumption) | exact Nat.ne_of_lt (by assumption) | exact Nat.ne_of_gt (by assumption)) own_nil)
          replace A_pv := A_pv.keep K20 (own_cons (by first | assumption | exact Ne.symm (by assumption) | exact Nat.ne_of_lt (by assumption) | exact Nat.ne_of_gt (by assumption)) own_nil)
          replace A_rm := A_rm.keep K20 (own_cons (by first | assumption | exact Ne.symm (by assumption) | exact Nat.ne_of_lt (by assumption) | exact Nat.ne_of_gt (by assumption)) own_nil)
          replace O_q : Ob Z h19 q "com/example/singlet/singlet/network/Domain" L_DM [(.ref va), (.ref pr), (.ref nx), (.ref pv), (.ref rm), (.int 0), (.int 0), .null, (.int 0)] := O_n
          clear O_n
          refine WP.iconst d3_105 (z := (0 : Int32)) rfl (pc' := 106) rfl ?_
          refine WP.istore d3_106 (pc' := 108) rfl (ls' := #[.val (.ref q), .val (.ref a), .val .null, .val (.int (-1 : Int32)), .val (.int (4 : Int32)), .val (.int (0 : Int32))]) rfl ?_
          refine WP.iload d3_108 rfl (pc' := 110) rfl ?_
          refine WP.iload d3_110 rfl (pc' := 112) rfl ?_
          refine WP.icmpGe d3_112 (tgt := 164) (by decide) (pc' := 115) rfl (fun c112 => ?_) (fun c112 => ?_)
          · exfalso; omega
          refine WP.aloadN d3_115 rfl rfl (pc' := 116) rfl ?_
          refine WP.getf (i := 1) (v := (.ref pr)) d3_116 (w31 hw) O_q rfl rfl (pc' := 119) rfl ?_
          refine WP.iload d3_119 rfl (pc' := 121) rfl ?_
          refine WP.iconst d3_121 (z := (1 : Int32)) rfl (pc' := 122) rfl ?_
          refine WP.bastoreZ 0 d3_122 A_pr rfl (Nat.le_of_ble_eq_true rfl) g_pr (pc' := 123) rfl ?_
          intro h21 K22 A_n
          replace E_a := E_a.keep K22
          replace E_va := E_va.keep K22
          replace E_pr := E_pr.keep K22
          replace E_nx := E_nx.keep K22
          replace E_pv := E_pv.keep K22
          replace E_rm := E_rm.keep K22
          replace O_q := O_q.keep K22 (own_cons (by first | assumption | exact Ne.symm (by assumption) | exact Nat.ne_of_lt (by assumption) | exact Nat.ne_of_gt (by assumption)) own_nil)
          replace A_a := A_a.keep K22 (own_cons (by first | assumption | exact Ne.symm (by assumption) | exact Nat.ne_of_lt (by assumption) | exact Nat.ne_of_gt (by assumption)) own_nil)
          replace A_va := A_va.keep K22 (own_cons (by first | assumption | exact Ne.symm (by assumption) | exact Nat.ne_of_lt (by assumption) | exact Nat.ne_of_gt (by assumption)) own_nil)
          replace A_nx := A_nx.keep K22 (own_cons (by first | assumption | exact Ne.symm (by assumption) | exact Nat.ne_of_lt (by assumption) | exact Nat.ne_of_gt (by assumption)) own_nil)
          replace A_pv := A_pv.keep K22 (own_cons (by first | assumption | exact Ne.symm (by assumption) | exact Nat.ne_of_lt (by assumption) | exact Nat.ne_of_gt (by assumption)) own_nil)
          replace A_rm := A_rm.keep K22 (own_cons (by first | assumption | exact Ne.symm (by assumption) | exact Nat.ne_of_lt (by assumption) | exact Nat.ne_of_gt (by assumption)) own_nil)
          replace A_pr : Av Z h21 pr .boolean [(.int (nar .boolean (1 : Int32))), (.int 0), (.int 0), (.int 0)] := A_n
          clear A_n
          refine WP.aloadN d3_123 rfl rfl (pc' := 124) rfl ?_
          refine WP.getf (i := 2) (v := (.ref nx)) d3_124 (w33 hw) O_q rfl rfl (pc' := 127) rfl ?_
          refine WP.iload d3_127 rfl (pc' := 129) rfl ?_
          refine WP.iload d3_129 rfl (pc' := 131) rfl ?_
          refine WP.iconst d3_131 (z := (1 : Int32)) rfl (pc' := 132) rfl ?_
          refine WP.iadd d3_132 (pc' := 133) rfl ?_
          rw [show (((0 : Int32) + (1 : Int32)) : Int32) = (1 : Int32) from by decide]
          refine WP.iload d3_133 rfl (pc' := 135) rfl ?_
          refine WP.icmpGe d3_135 (tgt := 145) (by decide) (pc' := 138) rfl (fun c135 => ?_) (fun c135 => ?_)
          · exfalso; omega
          refine WP.iload d3_138 rfl (pc' := 140) rfl ?_
          refine WP.iconst d3_140 (z := (1 : Int32)) rfl (pc' := 141) rfl ?_
          refine WP.iadd d3_141 (pc' := 142) rfl ?_
          rw [show (((0 : Int32) + (1 : Int32)) : Int32) = (1 : Int32) from by decide]
          refine WP.goto d3_142 (pc' := 146) (by decide) ?_
          refine WP.iastore 0 d3_146 A_nx rfl (Nat.le_of_ble_eq_true rfl) g_nx (pc' := 147) rfl ?_
          intro h23 K24 A_n
          replace E_a := E_a.keep K24
          replace E_va := E_va.keep K24
          replace E_pr := E_pr.keep K24
          replace E_nx := E_nx.keep K24
          replace E_pv := E_pv.keep K24
          replace E_rm := E_rm.keep K24
          replace O_q := O_q.keep K24 (own_cons (by first | assumption | exact Ne.symm (by assumption) | exact Nat.ne_of_lt (by assumption) | exact Nat.ne_of_gt (by assumption)) own_nil)
          replace A_a := A_a.keep K24 (own_cons (by first | assumption | exact Ne.symm (by assumption) | exact Nat.ne_of_lt (by assumption) | exact Nat.ne_of_gt (by assumption)) own_nil)
          replace A_va := A_va.keep K24 (own_cons (by first | assumption | exact Ne.symm (by assumption) | exact Nat.ne_of_lt (by assumption) | exact Nat.ne_of_gt (by assumption)) own_nil)
          replace A_pr := A_pr.keep K24 (own_cons (by first | assumption | exact Ne.symm (by assumption) | exact Nat.ne_of_lt (by assumption) | exact Nat.ne_of_gt (by assumption)) own_nil)
          replace A_pv := A_pv.keep K24 (own_cons (by first | assumption | exact Ne.symm (by assumption) | exact Nat.ne_of_lt (by assumption) | exact Nat.ne_of_gt (by assumption)) own_nil)
          replace A_rm := A_rm.keep K24 (own_cons (by first | assumption | exact Ne.symm (by assumption) | exact Nat.ne_of_lt (by assumption) | exact Nat.ne_of_gt (by assumption)) own_nil)
          replace A_nx : Av Z h23 nx .int [(.int (1 : Int32)), (.int 0), (.int 0), (.int 0)] := A_n
          clear A_n
          refine WP.aloadN d3_147 rfl rfl (pc' := 148) rfl ?_
          refine WP.getf (i := 3) (v := (.ref pv)) d3_148 (w35 hw) O_q rfl rfl (pc' := 151) rfl ?_
          refine WP.iload d3_151 rfl (pc' := 153) rfl ?_
          refine WP.iload d3_153 rfl (pc' := 155) rfl ?_
          refine WP.iconst d3_155 (z := (1 : Int32)) rfl (pc' := 156) rfl ?_
          refine WP.isub d3_156 (pc' := 157) rfl ?_
          rw [show (((0 : Int32) - (1 : Int32)) : Int32) = (-1 : Int32) from by decide]
          refine WP.iastore 0 d3_157 A_pv rfl (Nat.le_of_ble_eq_true rfl) g_pv (pc' := 158) rfl ?_
          intro h25 K26 A_n
          replace E_a := E_a.keep K26
          replace E_va := E_va.keep K26
          replace E_pr := E_pr.keep K26
          replace E_nx := E_nx.keep K26
          replace E_pv := E_pv.keep K26
          replace E_rm := E_rm.keep K26
          replace O_q := O_q.keep K26 (own_cons (by first | assumption | exact Ne.symm (by assumption) | exact Nat.ne_of_lt (by assumption) | exact Nat.ne_of_gt (by assumption)) own_nil)
          replace A_a := A_a.keep K26 (own_cons (by first | assumption | exact Ne.symm (by assumption) | exact Nat.ne_of_lt (by assumption) | exact Nat.ne_of_gt (by assumption)) own_nil)
          replace A_va := A_va.keep K26 (own_cons (by first | assumption | exact Ne.symm (by assumption) | exact Nat.ne_of_lt (by assumption) | exact Nat.ne_of_gt (by assumption)) own_nil)
          replace A_pr := A_pr.keep K26 (own_cons (by first | assumption | exact Ne.symm (by assumption) | exact Nat.ne_of_lt (by assumption) | exact Nat.ne_of_gt (by assumption)) own_nil)
          replace A_nx := A_nx.keep K26 (own_cons (by first | assumption | exact Ne.symm (by assumption) | exact Nat.ne_of_lt (by assumption) | exact Nat.ne_of_gt (by assumption)) own_nil)
          replace A_rm := A_rm.keep K26 (own_cons (by first | assumption | exact Ne.symm (by assumption) | exact Nat.ne_of_lt (by assumption) | exact Nat.ne_of_gt (by assumption)) own_nil)
          replace A_pv : Av Z h25 pv .int [(.int (-1 : Int32)), (.int 0), (.int 0), (.int 0)] := A_n
          clear A_n
          refine WP.iinc d3_158 (pc' := 161) rfl rfl (y := (1 : Int32)) (by decide) (ls' := #[.val (.ref q), .val (.ref a), .val .null, .val (.int (-1 : Int32)), .val (.int (4 : Int32)), .val (.int (1 : Int32))]) rfl ?_
          refine WP.goto d3_161 (pc' := 108) (by decide) ?_
          refine WP.iload d3_108 rfl (pc' := 110) rfl ?_
          refine WP.iload d3_110 rfl (pc' := 112) rfl ?_
          refine WP.icmpGe d3_112 (tgt := 164) (by decide) (pc' := 115) rfl (fun c112 => ?_) (fun c112 => ?_)
          · exfalso; omega
          refine WP.aloadN d3_115 rfl rfl (pc' := 116) rfl ?_
          refine WP.getf (i := 1) (v := (.ref pr)) d3_116 (w31 hw) O_q rfl rfl (pc' := 119) rfl ?_
          refine WP.iload d3_119 rfl (pc' := 121) rfl ?_
          refine WP.iconst d3_121 (z := (1 : Int32)) rfl (pc' := 122) rfl ?_
          refine WP.bastoreZ 1 d3_122 A_pr rfl (Nat.le_of_ble_eq_true rfl) g_pr (pc' := 123) rfl ?_
          intro h27 K28 A_n
          replace E_a := E_a.keep K28
          replace E_va := E_va.keep K28
          replace E_pr := E_pr.keep K28
          replace E_nx := E_nx.keep K28
          replace E_pv := E_pv.keep K28
          replace E_rm := E_rm.keep K28
          replace O_q := O_q.keep K28 (own_cons (by first | assumption | exact Ne.symm (by assumption) | exact Nat.ne_of_lt (by assumption) | exact Nat.ne_of_gt (by assumption)) own_nil)
          replace A_a := A_a.keep K28 (own_cons (by first | assumption | exact Ne.symm (by assumption) | exact Nat.ne_of_lt (by assumption) | exact Nat.ne_of_gt (by assumption)) own_nil)
          replace A_va := A_va.keep K28 (own_cons (by first | assumption | exact Ne.symm (by assumption) | exact Nat.ne_of_lt (by assumption) | exact Nat.ne_of_gt (by assumption)) own_nil)
          replace A_nx := A_nx.keep K28 (own_cons (by first | assumption | exact Ne.symm (by assumption) | exact Nat.ne_of_lt (by assumption) | exact Nat.ne_of_gt (by assumption)) own_nil)
          replace A_pv := A_pv.keep K28 (own_cons (by first | assumption | exact Ne.symm (by assumption) | exact Nat.ne_of_lt (by assumption) | exact Nat.ne_of_gt (by assumption)) own_nil)
          replace A_rm := A_rm.keep K28 (own_cons (by first | assumption | exact Ne.symm (by assumption) | exact Nat.ne_of_lt (by assumption) | exact Nat.ne_of_gt (by assumption)) own_nil)
          replace A_pr : Av Z h27 pr .boolean [(.int (nar .boolean (1 : Int32))), (.int (nar .boolean (1 : Int32))), (.int 0), (.int 0)] := A_n
          clear A_n
          refine WP.aloadN d3_123 rfl rfl (pc' := 124) rfl ?_
          refine WP.getf (i := 2) (v := (.ref nx)) d3_124 (w33 hw) O_q rfl rfl (pc' := 127) rfl ?_
          refine WP.iload d3_127 rfl (pc' := 129) rfl ?_
          refine WP.iload d3_129 rfl (pc' := 131) rfl ?_
          refine WP.iconst d3_131 (z := (1 : Int32)) rfl (pc' := 132) rfl ?_
          refine WP.iadd d3_132 (pc' := 133) rfl ?_
          rw [show (((1 : Int32) + (1 : Int32)) : Int32) = (2 : Int32) from by decide]
          refine WP.iload d3_133 rfl (pc' := 135) rfl ?_
          refine WP.icmpGe d3_135 (tgt := 145) (by decide) (pc' := 138) rfl (fun c135 => ?_) (fun c135 => ?_)
          · exfalso; omega
          refine WP.iload d3_138 rfl (pc' := 140) rfl ?_
          refine WP.iconst d3_140 (z := (1 : Int32)) rfl (pc' := 141) rfl ?_
          refine WP.iadd d3_141 (pc' := 142) rfl ?_
          rw [show (((1 : Int32) + (1 : Int32)) : Int32) = (2 : Int32) from by decide]
          refine WP.goto d3_142 (pc' := 146) (by decide) ?_
          refine WP.iastore 1 d3_146 A_nx rfl (Nat.le_of_ble_eq_true rfl) g_nx (pc' := 147) rfl ?_
          intro h29 K30 A_n
          replace E_a := E_a.keep K30
          replace E_va := E_va.keep K30
          replace E_pr := E_pr.keep K30
          replace E_nx := E_nx.keep K30
          replace E_pv := E_pv.keep K30
          replace E_rm := E_rm.keep K30
          replace O_q := O_q.keep K30 (own_cons (by first | assumption | exact Ne.symm (by assumption) | exact Nat.ne_of_lt (by assumption) | exact Nat.ne_of_gt (by assumption)) own_nil)
          replace A_a := A_a.keep K30 (own_cons (by first | assumption | exact Ne.symm (by assumption) | exact Nat.ne_of_lt (by assumption) | exact Nat.ne_of_gt (by assumption)) own_nil)
          replace A_va := A_va.keep K30 (own_cons (by first | assumption | exact Ne.symm (by assumption) | exact Nat.ne_of_lt (by assumption) | exact Nat.ne_of_gt (by assumption)) own_nil)
          replace A_pr := A_pr.keep K30 (own_cons (by first | assumption | exact Ne.symm (by assumption) | exact Nat.ne_of_lt (by assumption) | exact Nat.ne_of_gt (by assumption)) own_nil)
          replace A_pv := A_pv.keep K30 (own_cons (by first | assumption | exact Ne.symm (by assumption) | exact Nat.ne_of_lt (by assumption) | exact Nat.ne_of_gt (by assumption)) own_nil)
          replace A_rm := A_rm.keep K30 (own_cons (by first | assumption | exact Ne.symm (by assumption) | exact Nat.ne_of_lt (by assumption) | exact Nat.ne_of_gt (by assumption)) own_nil)
          replace A_nx : Av Z h29 nx .int [(.int (1 : Int32)), (.int (2 : Int32)), (.int 0), (.int 0)] := A_n
          clear A_n
          refine WP.aloadN d3_147 rfl rfl (pc' := 148) rfl ?_
          refine WP.getf (i := 3) (v := (.ref pv)) d3_148 (w35 hw) O_q rfl rfl (pc' := 151) rfl ?_
          refine WP.iload d3_151 rfl (pc' := 153) rfl ?_
          refine WP.iload d3_153 rfl (pc' := 155) rfl ?_
          refine WP.iconst d3_155 (z := (1 : Int32)) rfl (pc' := 156) rfl ?_
          refine WP.isub d3_156 (pc' := 157) rfl ?_
          rw [show (((1 : Int32) - (1 : Int32)) : Int32) = (0 : Int32) from by decide]
          refine WP.iastore 1 d3_157 A_pv rfl (Nat.le_of_ble_eq_true rfl) g_pv (pc' := 158) rfl ?_
          intro h31 K32 A_n
          replace E_a := E_a.keep K32
          replace E_va := E_va.keep K32
          replace E_pr := E_pr.keep K32
          replace E_nx := E_nx.keep K32
          replace E_pv := E_pv.keep K32
          replace E_rm := E_rm.keep K32
          replace O_q := O_q.keep K32 (own_cons (by first | assumption | exact Ne.symm (by assumption) | exact Nat.ne_of_lt (by assumption) | exact Nat.ne_of_gt (by assumption)) own_nil)
          replace A_a := A_a.keep K32 (own_cons (by first | assumption | exact Ne.symm (by assumption) | exact Nat.ne_of_lt (by assumption) | exact Nat.ne_of_gt (by assumption)) own_nil)
          replace A_va := A_va.keep K32 (own_cons (by first | assumption | exact Ne.symm (by assumption) | exact Nat.ne_of_lt (by assumption) | exact Nat.ne_of_gt (by assumption)) own_nil)
          replace A_pr := A_pr.keep K32 (own_cons (by first | assumption | exact Ne.symm (by assumption) | exact Nat.ne_of_lt (by assumption) | exact Nat.ne_of_gt (by assumption)) own_nil)
          replace A_nx := A_nx.keep K32 (own_cons (by first | assumption | exact Ne.symm (by assumption) | exact Nat.ne_of_lt (by assumption) | exact Nat.ne_of_gt (by assumption)) own_nil)
          replace A_rm := A_rm.keep K32 (own_cons (by first | assumption | exact Ne.symm (by assumption) | exact Nat.ne_of_lt (by assumption) | exact Nat.ne_of_gt (by assumption)) own_nil)
          replace A_pv : Av Z h31 pv .int [(.int (-1 : Int32)), (.int (0 : Int32)), (.int 0), (.int 0)] := A_n
          clear A_n
          refine WP.iinc d3_158 (pc' := 161) rfl rfl (y := (2 : Int32)) (by decide) (ls' := #[.val (.ref q), .val (.ref a), .val .null, .val (.int (-1 : Int32)), .val (.int (4 : Int32)), .val (.int (2 : Int32))]) rfl ?_
          refine WP.goto d3_161 (pc' := 108) (by decide) ?_
          refine WP.iload d3_108 rfl (pc' := 110) rfl ?_
          refine WP.iload d3_110 rfl (pc' := 112) rfl ?_
          refine WP.icmpGe d3_112 (tgt := 164) (by decide) (pc' := 115) rfl (fun c112 => ?_) (fun c112 => ?_)
          · exfalso; omega
          refine WP.aloadN d3_115 rfl rfl (pc' := 116) rfl ?_
          refine WP.getf (i := 1) (v := (.ref pr)) d3_116 (w31 hw) O_q rfl rfl (pc' := 119) rfl ?_
          refine WP.iload d3_119 rfl (pc' := 121) rfl ?_
          refine WP.iconst d3_121 (z := (1 : Int32)) rfl (pc' := 122) rfl ?_
          refine WP.bastoreZ 2 d3_122 A_pr rfl (Nat.le_of_ble_eq_true rfl) g_pr (pc' := 123) rfl ?_
          intro h33 K34 A_n
          replace E_a := E_a.keep K34
          replace E_va := E_va.keep K34
          replace E_pr := E_pr.keep K34
          replace E_nx := E_nx.keep K34
          replace E_pv := E_pv.keep K34
          replace E_rm := E_rm.keep K34
          replace O_q := O_q.keep K34 (own_cons (by first | assumption | exact Ne.symm (by assumption) | exact Nat.ne_of_lt (by assumption) | exact Nat.ne_of_gt (by assumption)) own_nil)
          replace A_a := A_a.keep K34 (own_cons (by first | assumption | exact Ne.symm (by assumption) | exact Nat.ne_of_lt (by assumption) | exact Nat.ne_of_gt (by assumption)) own_nil)
          replace A_va := A_va.keep K34 (own_cons (by first | assumption | exact Ne.symm (by assumption) | exact Nat.ne_of_lt (by assumption) | exact Nat.ne_of_gt (by assumption)) own_nil)
          replace A_nx := A_nx.keep K34 (own_cons (by first | assumption | exact Ne.symm (by assumption) | exact Nat.ne_of_lt (by assumption) | exact Nat.ne_of_gt (by assumption)) own_nil)
          replace A_pv := A_pv.keep K34 (own_cons (by first | assumption | exact Ne.symm (by assumption) | exact Nat.ne_of_lt (by assumption) | exact Nat.ne_of_gt (by assumption)) own_nil)
          replace A_rm := A_rm.keep K34 (own_cons (by first | assumption | exact Ne.symm (by assumption) | exact Nat.ne_of_lt (by assumption) | exact Nat.ne_of_gt (by assumption)) own_nil)
          replace A_pr : Av Z h33 pr .boolean [(.int (nar .boolean (1 : Int32))), (.int (nar .boolean (1 : Int32))), (.int (nar .boolean (1 : Int32))), (.int 0)] := A_n
          clear A_n
          refine WP.aloadN d3_123 rfl rfl (pc' := 124) rfl ?_
          refine WP.getf (i := 2) (v := (.ref nx)) d3_124 (w33 hw) O_q rfl rfl (pc' := 127) rfl ?_
          refine WP.iload d3_127 rfl (pc' := 129) rfl ?_
          refine WP.iload d3_129 rfl (pc' := 131) rfl ?_
          refine WP.iconst d3_131 (z := (1 : Int32)) rfl (pc' := 132) rfl ?_
          refine WP.iadd d3_132 (pc' := 133) rfl ?_
          rw [show (((2 : Int32) + (1 : Int32)) : Int32) = (3 : Int32) from by decide]
          refine WP.iload d3_133 rfl (pc' := 135) rfl ?_
          refine WP.icmpGe d3_135 (tgt := 145) (by decide) (pc' := 138) rfl (fun c135 => ?_) (fun c135 => ?_)
          · exfalso; omega
          refine WP.iload d3_138 rfl (pc' := 140) rfl ?_
          refine WP.iconst d3_140 (z := (1 : Int32)) rfl (pc' := 141) rfl ?_
          refine WP.iadd d3_141 (pc' := 142) rfl ?_
          rw [show (((2 : Int32) + (1 : Int32)) : Int32) = (3 : Int32) from by decide]
          refine WP.goto d3_142 (pc' := 146) (by decide) ?_
          refine WP.iastore 2 d3_146 A_nx rfl (Nat.le_of_ble_eq_true rfl) g_nx (pc' := 147) rfl ?_
          intro h35 K36 A_n
          replace E_a := E_a.keep K36
          replace E_va := E_va.keep K36
          replace E_pr := E_pr.keep K36
          replace E_nx := E_nx.keep K36
          replace E_pv := E_pv.keep K36
          replace E_rm := E_rm.keep K36
          replace O_q := O_q.keep K36 (own_cons (by first | assumption | exact Ne.symm (by assumption) | exact Nat.ne_of_lt (by assumption) | exact Nat.ne_of_gt (by assumption)) own_nil)
          replace A_a := A_a.keep K36 (own_cons (by first | assumption | exact Ne.symm (by assumption) | exact Nat.ne_of_lt (by assumption) | exact Nat.ne_of_gt (by assumption)) own_nil)
          replace A_va := A_va.keep K36 (own_cons (by first | assumption | exact Ne.symm (by assumption) | exact Nat.ne_of_lt (by assumption) | exact Nat.ne_of_gt (by assumption)) own_nil)
          replace A_pr := A_pr.keep K36 (own_cons (by first | assumption | exact Ne.symm (by assumption) | exact Nat.ne_of_lt (by assumption) | exact Nat.ne_of_gt (by assumption)) own_nil)
          replace A_pv := A_pv.keep K36 (own_cons (by first | assumption | exact Ne.symm (by assumption) | exact Nat.ne_of_lt (by assumption) | exact Nat.ne_of_gt (by assumption)) own_nil)
          replace A_rm := A_rm.keep K36 (own_cons (by first | assumption | exact Ne.symm (by assumption) | exact Nat.ne_of_lt (by assumption) | exact Nat.ne_of_gt (by assumption)) own_nil)
          replace A_nx : Av Z h35 nx .int [(.int (1 : Int32)), (.int (2 : Int32)), (.int (3 : Int32)), (.int 0)] := A_n
          clear A_n
          refine WP.aloadN d3_147 rfl rfl (pc' := 148) rfl ?_
          refine WP.getf (i := 3) (v := (.ref pv)) d3_148 (w35 hw) O_q rfl rfl (pc' := 151) rfl ?_
          refine WP.iload d3_151 rfl (pc' := 153) rfl ?_
          refine WP.iload d3_153 rfl (pc' := 155) rfl ?_
          refine WP.iconst d3_155 (z := (1 : Int32)) rfl (pc' := 156) rfl ?_
          refine WP.isub d3_156 (pc' := 157) rfl ?_
          rw [show (((2 : Int32) - (1 : Int32)) : Int32) = (1 : Int32) from by decide]
          refine WP.iastore 2 d3_157 A_pv rfl (Nat.le_of_ble_eq_true rfl) g_pv (pc' := 158) rfl ?_
          intro h37 K38 A_n
          replace E_a := E_a.keep K38
          replace E_va := E_va.keep K38
          replace E_pr := E_pr.keep K38
          replace E_nx := E_nx.keep K38
          replace E_pv := E_pv.keep K38
          replace E_rm := E_rm.keep K38
          replace O_q := O_q.keep K38 (own_cons (by first | assumption | exact Ne.symm (by assumption) | exact Nat.ne_of_lt (by assumption) | exact Nat.ne_of_gt (by assumption)) own_nil)
          replace A_a := A_a.keep K38 (own_cons (by first | assumption | exact Ne.symm (by assumption) | exact Nat.ne_of_lt (by assumption) | exact Nat.ne_of_gt (by assumption)) own_nil)
          replace A_va := A_va.keep K38 (own_cons (by first | assumption | exact Ne.symm (by assumption) | exact Nat.ne_of_lt (by assumption) | exact Nat.ne_of_gt (by assumption)) own_nil)
          replace A_pr := A_pr.keep K38 (own_cons (by first | assumption | exact Ne.symm (by assumption) | exact Nat.ne_of_lt (by assumption) | exact Nat.ne_of_gt (by assumption)) own_nil)
          replace A_nx := A_nx.keep K38 (own_cons (by first | assumption | exact Ne.symm (by assumption) | exact Nat.ne_of_lt (by assumption) | exact Nat.ne_of_gt (by assumption)) own_nil)
          replace A_rm := A_rm.keep K38 (own_cons (by first | assumption | exact Ne.symm (by assumption) | exact Nat.ne_of_lt (by assumption) | exact Nat.ne_of_gt (by assumption)) own_nil)
          replace A_pv : Av Z h37 pv .int [(.int (-1 : Int32)), (.int (0 : Int32)), (.int (1 : Int32)), (.int 0)] := A_n
          clear A_n
          refine WP.iinc d3_158 (pc' := 161) rfl rfl (y := (3 : Int32)) (by decide) (ls' := #[.val (.ref q), .val (.ref a), .val .null, .val (.int (-1 : Int32)), .val (.int (4 : Int32)), .val (.int (3 : Int32))]) rfl ?_
          refine WP.goto d3_161 (pc' := 108) (by decide) ?_
          refine WP.iload d3_108 rfl (pc' := 110) rfl ?_
          refine WP.iload d3_110 rfl (pc' := 112) rfl ?_
          refine WP.icmpGe d3_112 (tgt := 164) (by decide) (pc' := 115) rfl (fun c112 => ?_) (fun c112 => ?_)
          · exfalso; omega
          refine WP.aloadN d3_115 rfl rfl (pc' := 116) rfl ?_
          refine WP.getf (i := 1) (v := (.ref pr)) d3_116 (w31 hw) O_q rfl rfl (pc' := 119) rfl ?_
          refine WP.iload d3_119 rfl (pc' := 121) rfl ?_
          refine WP.iconst d3_121 (z := (1 : Int32)) rfl (pc' := 122) rfl ?_
          refine WP.bastoreZ 3 d3_122 A_pr rfl (Nat.le_of_ble_eq_true rfl) g_pr (pc' := 123) rfl ?_
          intro h39 K40 A_n
          replace E_a := E_a.keep K40
          replace E_va := E_va.keep K40
          replace E_pr := E_pr.keep K40
          replace E_nx := E_nx.keep K40
          replace E_pv := E_pv.keep K40
          replace E_rm := E_rm.keep K40
          replace O_q := O_q.keep K40 (own_cons (by first | assumption | exact Ne.symm (by assumption) | exact Nat.ne_of_lt (by assumption) | exact Nat.ne_of_gt (by assumption)) own_nil)
          replace A_a := A_a.keep K40 (own_cons (by first | assumption | exact Ne.symm (by assumption) | exact Nat.ne_of_lt (by assumption) | exact Nat.ne_of_gt (by assumption)) own_nil)
          replace A_va := A_va.keep K40 (own_cons (by first | assumption | exact Ne.symm (by assumption) | exact Nat.ne_of_lt (by assumption) | exact Nat.ne_of_gt (by assumption)) own_nil)
          replace A_nx := A_nx.keep K40 (own_cons (by first | assumption | exact Ne.symm (by assumption) | exact Nat.ne_of_lt (by assumption) | exact Nat.ne_of_gt (by assumption)) own_nil)
          replace A_pv := A_pv.keep K40 (own_cons (by first | assumption | exact Ne.symm (by assumption) | exact Nat.ne_of_lt (by assumption) | exact Nat.ne_of_gt (by assumption)) own_nil)
          replace A_rm := A_rm.keep K40 (own_cons (by first | assumption | exact Ne.symm (by assumption) | exact Nat.ne_of_lt (by assumption) | exact Nat.ne_of_gt (by assumption)) own_nil)
          replace A_pr : Av Z h39 pr .boolean [(.int (nar .boolean (1 : Int32))), (.int (nar .boolean (1 : Int32))), (.int (nar .boolean (1 : Int32))), (.int (nar .boolean (1 : Int32)))] := A_n
          clear A_n
          refine WP.aloadN d3_123 rfl rfl (pc' := 124) rfl ?_
          refine WP.getf (i := 2) (v := (.ref nx)) d3_124 (w33 hw) O_q rfl rfl (pc' := 127) rfl ?_
          refine WP.iload d3_127 rfl (pc' := 129) rfl ?_
          refine WP.iload d3_129 rfl (pc' := 131) rfl ?_
          refine WP.iconst d3_131 (z := (1 : Int32)) rfl (pc' := 132) rfl ?_
          refine WP.iadd d3_132 (pc' := 133) rfl ?_
          rw [show (((3 : Int32) + (1 : Int32)) : Int32) = (4 : Int32) from by decide]
          refine WP.iload d3_133 rfl (pc' := 135) rfl ?_
          refine WP.icmpGe d3_135 (tgt := 145) (by decide) (pc' := 138) rfl (fun c135 => ?_) (fun c135 => ?_)
          ·
            refine WP.iconst d3_145 (z := (-1 : Int32)) rfl (pc' := 146) rfl ?_
            refine WP.iastore 3 d3_146 A_nx rfl (Nat.le_of_ble_eq_true rfl) g_nx (pc' := 147) rfl ?_
            intro h41 K42 A_n
            replace E_a := E_a.keep K42
            replace E_va := E_va.keep K42
            replace E_pr := E_pr.keep K42
            replace E_nx := E_nx.keep K42
            replace E_pv := E_pv.keep K42
            replace E_rm := E_rm.keep K42
            replace O_q := O_q.keep K42 (own_cons (by first | assumption | exact Ne.symm (by assumption) | exact Nat.ne_of_lt (by assumption) | exact Nat.ne_of_gt (by assumption)) own_nil)
            replace A_a := A_a.keep K42 (own_cons (by first | assumption | exact Ne.symm (by assumption) | exact Nat.ne_of_lt (by assumption) | exact Nat.ne_of_gt (by assumption)) own_nil)
            replace A_va := A_va.keep K42 (own_cons (by first | assumption | exact Ne.symm (by assumption) | exact Nat.ne_of_lt (by assumption) | exact Nat.ne_of_gt (by assumption)) own_nil)
            replace A_pr := A_pr.keep K42 (own_cons (by first | assumption | exact Ne.symm (by assumption) | exact Nat.ne_of_lt (by assumption) | exact Nat.ne_of_gt (by assumption)) own_nil)
            replace A_pv := A_pv.keep K42 (own_cons (by first | assumption | exact Ne.symm (by assumption) | exact Nat.ne_of_lt (by assumption) | exact Nat.ne_of_gt (by assumption)) own_nil)
            replace A_rm := A_rm.keep K42 (own_cons (by first | assumption | exact Ne.symm (by assumption) | exact Nat.ne_of_lt (by assumption) | exact Nat.ne_of_gt (by assumption)) own_nil)
            replace A_nx : Av Z h41 nx .int [(.int (1 : Int32)), (.int (2 : Int32)), (.int (3 : Int32)), (.int (-1 : Int32))] := A_n
            clear A_n
            refine WP.aloadN d3_147 rfl rfl (pc' := 148) rfl ?_
            refine WP.getf (i := 3) (v := (.ref pv)) d3_148 (w35 hw) O_q rfl rfl (pc' := 151) rfl ?_
            refine WP.iload d3_151 rfl (pc' := 153) rfl ?_
            refine WP.iload d3_153 rfl (pc' := 155) rfl ?_
            refine WP.iconst d3_155 (z := (1 : Int32)) rfl (pc' := 156) rfl ?_
            refine WP.isub d3_156 (pc' := 157) rfl ?_
            rw [show (((3 : Int32) - (1 : Int32)) : Int32) = (2 : Int32) from by decide]
            refine WP.iastore 3 d3_157 A_pv rfl (Nat.le_of_ble_eq_true rfl) g_pv (pc' := 158) rfl ?_
            intro h43 K44 A_n
            replace E_a := E_a.keep K44
            replace E_va := E_va.keep K44
            replace E_pr := E_pr.keep K44
            replace E_nx := E_nx.keep K44
            replace E_pv := E_pv.keep K44
            replace E_rm := E_rm.keep K44
            replace O_q := O_q.keep K44 (own_cons (by first | assumption | exact Ne.symm (by assumption) | exact Nat.ne_of_lt (by assumption) | exact Nat.ne_of_gt (by assumption)) own_nil)
            replace A_a := A_a.keep K44 (own_cons (by first | assumption | exact Ne.symm (by assumption) | exact Nat.ne_of_lt (by assumption) | exact Nat.ne_of_gt (by assumption)) own_nil)
            replace A_va := A_va.keep K44 (own_cons (by first | assumption | exact Ne.symm (by assumption) | exact Nat.ne_of_lt (by assumption) | exact Nat.ne_of_gt (by assumption)) own_nil)
            replace A_pr := A_pr.keep K44 (own_cons (by first | assumption | exact Ne.symm (by assumption) | exact Nat.ne_of_lt (by assumption) | exact Nat.ne_of_gt (by assumption)) own_nil)
            replace A_nx := A_nx.keep K44 (own_cons (by first | assumption | exact Ne.symm (by assumption) | exact Nat.ne_of_lt (by assumption) | exact Nat.ne_of_gt (by assumption)) own_nil)
            replace A_rm := A_rm.keep K44 (own_cons (by first | assumption | exact Ne.symm (by assumption) | exact Nat.ne_of_lt (by assumption) | exact Nat.ne_of_gt (by assumption)) own_nil)
            replace A_pv : Av Z h43 pv .int [(.int (-1 : Int32)), (.int (0 : Int32)), (.int (1 : Int32)), (.int (2 : Int32))] := A_n
            clear A_n
            refine WP.iinc d3_158 (pc' := 161) rfl rfl (y := (4 : Int32)) (by decide) (ls' := #[.val (.ref q), .val (.ref a), .val .null, .val (.int (-1 : Int32)), .val (.int (4 : Int32)), .val (.int (4 : Int32))]) rfl ?_
            refine WP.goto d3_161 (pc' := 108) (by decide) ?_
            refine WP.iload d3_108 rfl (pc' := 110) rfl ?_
            refine WP.iload d3_110 rfl (pc' := 112) rfl ?_
            refine WP.icmpGe d3_112 (tgt := 164) (by decide) (pc' := 115) rfl (fun c112 => ?_) (fun c112 => ?_)
            ·
              refine WP.aloadN d3_164 rfl rfl (pc' := 165) rfl ?_
              refine WP.iload d3_165 rfl (pc' := 167) rfl ?_
              refine WP.ifLe d3_167 (tgt := 174) (by decide) (pc' := 170) rfl (fun c167 => ?_) (fun c167 => ?_)
              · exfalso; omega
              refine WP.iconst d3_170 (z := (0 : Int32)) rfl (pc' := 171) rfl ?_
              refine WP.goto d3_171 (pc' := 175) (by decide) ?_
              refine WP.putf (i := 5) d3_175 (w39 hw) O_q (lay_DM hw) (by decide) rfl (Or.inl (w40 hw)) (w8 hw) (t := .int) (by decide) rfl rfl g_q (pc' := 178) rfl ?_
              intro h45 K46 O_n
              replace E_a := E_a.keep K46
              replace E_va := E_va.keep K46
              replace E_pr := E_pr.keep K46
              replace E_nx := E_nx.keep K46
              replace E_pv := E_pv.keep K46
              replace E_rm := E_rm.keep K46
              replace A_a := A_a.keep K46 (own_cons (by first | assumption | exact Ne.symm (by assumption) | exact Nat.ne_of_lt (by assumption) | exact Nat.ne_of_gt (by assumption)) own_nil)
              replace A_va := A_va.keep K46 (own_cons (by first | assumption | exact Ne.symm (by assumption) | exact Nat.ne_of_lt (by assumption) | exact Nat.ne_of_gt (by assumption)) own_nil)
              replace A_pr := A_pr.keep K46 (own_cons (by first | assumption | exact Ne.symm (by assumption) | exact Nat.ne_of_lt (by assumption) | exact Nat.ne_of_gt (by assumption)) own_nil)
              replace A_nx := A_nx.keep K46 (own_cons (by first | assumption | exact Ne.symm (by assumption) | exact Nat.ne_of_lt (by assumption) | exact Nat.ne_of_gt (by assumption)) own_nil)
              replace A_pv := A_pv.keep K46 (own_cons (by first | assumption | exact Ne.symm (by assumption) | exact Nat.ne_of_lt (by assumption) | exact Nat.ne_of_gt (by assumption)) own_nil)
              replace A_rm := A_rm.keep K46 (own_cons (by first | assumption | exact Ne.symm (by assumption) | exact Nat.ne_of_lt (by assumption) | exact Nat.ne_of_gt (by assumption)) own_nil)
              replace O_q : Ob Z h45 q "com/example/singlet/singlet/network/Domain" L_DM [(.ref va), (.ref pr), (.ref nx), (.ref pv), (.ref rm), (.int (0 : Int32)), (.int 0), .null, (.int 0)] := O_n
              clear O_n
              refine WP.aloadN d3_178 rfl rfl (pc' := 179) rfl ?_
              refine WP.iload d3_179 rfl (pc' := 181) rfl ?_
              refine WP.iconst d3_181 (z := (1 : Int32)) rfl (pc' := 182) rfl ?_
              refine WP.isub d3_182 (pc' := 183) rfl ?_
              rw [show (((4 : Int32) - (1 : Int32)) : Int32) = (3 : Int32) from by decide]
              refine WP.putf (i := 6) d3_183 (w41 hw) O_q (lay_DM hw) (by decide) rfl (Or.inl (w42 hw)) (w8 hw) (t := .int) (by decide) rfl rfl g_q (pc' := 186) rfl ?_
              intro h47 K48 O_n
              replace E_a := E_a.keep K48
              replace E_va := E_va.keep K48
              replace E_pr := E_pr.keep K48
              replace E_nx := E_nx.keep K48
              replace E_pv := E_pv.keep K48
              replace E_rm := E_rm.keep K48
              replace A_a := A_a.keep K48 (own_cons (by first | assumption | exact Ne.symm (by assumption) | exact Nat.ne_of_lt (by assumption) | exact Nat.ne_of_gt (by assumption)) own_nil)
              replace A_va := A_va.keep K48 (own_cons (by first | assumption | exact Ne.symm (by assumption) | exact Nat.ne_of_lt (by assumption) | exact Nat.ne_of_gt (by assumption)) own_nil)
              replace A_pr := A_pr.keep K48 (own_cons (by first | assumption | exact Ne.symm (by assumption) | exact Nat.ne_of_lt (by assumption) | exact Nat.ne_of_gt (by assumption)) own_nil)
              replace A_nx := A_nx.keep K48 (own_cons (by first | assumption | exact Ne.symm (by assumption) | exact Nat.ne_of_lt (by assumption) | exact Nat.ne_of_gt (by assumption)) own_nil)
              replace A_pv := A_pv.keep K48 (own_cons (by first | assumption | exact Ne.symm (by assumption) | exact Nat.ne_of_lt (by assumption) | exact Nat.ne_of_gt (by assumption)) own_nil)
              replace A_rm := A_rm.keep K48 (own_cons (by first | assumption | exact Ne.symm (by assumption) | exact Nat.ne_of_lt (by assumption) | exact Nat.ne_of_gt (by assumption)) own_nil)
              replace O_q : Ob Z h47 q "com/example/singlet/singlet/network/Domain" L_DM [(.ref va), (.ref pr), (.ref nx), (.ref pv), (.ref rm), (.int (0 : Int32)), (.int (3 : Int32)), .null, (.int 0)] := O_n
              clear O_n
              refine WP.aloadN d3_186 rfl rfl (pc' := 187) rfl ?_
              refine WP.aloadN d3_187 rfl rfl (pc' := 188) rfl ?_
              refine WP.putf (i := 7) d3_188 (w43 hw) O_q (lay_DM hw) (by decide) rfl (Or.inr ⟨(w44 hw), rfl, rfl⟩) (w8 hw) (t := (.object "com/example/singlet/singlet/network/Trail")) (by decide) rfl rfl g_q (pc' := 191) rfl ?_
              intro h49 K50 O_n
              replace E_a := E_a.keep K50
              replace E_va := E_va.keep K50
              replace E_pr := E_pr.keep K50
              replace E_nx := E_nx.keep K50
              replace E_pv := E_pv.keep K50
              replace E_rm := E_rm.keep K50
              replace A_a := A_a.keep K50 (own_cons (by first | assumption | exact Ne.symm (by assumption) | exact Nat.ne_of_lt (by assumption) | exact Nat.ne_of_gt (by assumption)) own_nil)
              replace A_va := A_va.keep K50 (own_cons (by first | assumption | exact Ne.symm (by assumption) | exact Nat.ne_of_lt (by assumption) | exact Nat.ne_of_gt (by assumption)) own_nil)
              replace A_pr := A_pr.keep K50 (own_cons (by first | assumption | exact Ne.symm (by assumption) | exact Nat.ne_of_lt (by assumption) | exact Nat.ne_of_gt (by assumption)) own_nil)
              replace A_nx := A_nx.keep K50 (own_cons (by first | assumption | exact Ne.symm (by assumption) | exact Nat.ne_of_lt (by assumption) | exact Nat.ne_of_gt (by assumption)) own_nil)
              replace A_pv := A_pv.keep K50 (own_cons (by first | assumption | exact Ne.symm (by assumption) | exact Nat.ne_of_lt (by assumption) | exact Nat.ne_of_gt (by assumption)) own_nil)
              replace A_rm := A_rm.keep K50 (own_cons (by first | assumption | exact Ne.symm (by assumption) | exact Nat.ne_of_lt (by assumption) | exact Nat.ne_of_gt (by assumption)) own_nil)
              replace O_q : Ob Z h49 q "com/example/singlet/singlet/network/Domain" L_DM [(.ref va), (.ref pr), (.ref nx), (.ref pv), (.ref rm), (.int (0 : Int32)), (.int (3 : Int32)), .null, (.int 0)] := O_n
              clear O_n
              refine WP.aloadN d3_191 rfl rfl (pc' := 192) rfl ?_
              refine WP.iloadN d3_192 rfl (pc' := 193) rfl ?_
              refine WP.putf (i := 8) d3_193 (w45 hw) O_q (lay_DM hw) (by decide) rfl (Or.inr ⟨(w46 hw), rfl, rfl⟩) (w8 hw) (t := .int) (by decide) rfl rfl g_q (pc' := 196) rfl ?_
              intro h51 K52 O_n
              replace E_a := E_a.keep K52
              replace E_va := E_va.keep K52
              replace E_pr := E_pr.keep K52
              replace E_nx := E_nx.keep K52
              replace E_pv := E_pv.keep K52
              replace E_rm := E_rm.keep K52
              replace A_a := A_a.keep K52 (own_cons (by first | assumption | exact Ne.symm (by assumption) | exact Nat.ne_of_lt (by assumption) | exact Nat.ne_of_gt (by assumption)) own_nil)
              replace A_va := A_va.keep K52 (own_cons (by first | assumption | exact Ne.symm (by assumption) | exact Nat.ne_of_lt (by assumption) | exact Nat.ne_of_gt (by assumption)) own_nil)
              replace A_pr := A_pr.keep K52 (own_cons (by first | assumption | exact Ne.symm (by assumption) | exact Nat.ne_of_lt (by assumption) | exact Nat.ne_of_gt (by assumption)) own_nil)
              replace A_nx := A_nx.keep K52 (own_cons (by first | assumption | exact Ne.symm (by assumption) | exact Nat.ne_of_lt (by assumption) | exact Nat.ne_of_gt (by assumption)) own_nil)
              replace A_pv := A_pv.keep K52 (own_cons (by first | assumption | exact Ne.symm (by assumption) | exact Nat.ne_of_lt (by assumption) | exact Nat.ne_of_gt (by assumption)) own_nil)
              replace A_rm := A_rm.keep K52 (own_cons (by first | assumption | exact Ne.symm (by assumption) | exact Nat.ne_of_lt (by assumption) | exact Nat.ne_of_gt (by assumption)) own_nil)
              replace O_q : Ob Z h51 q "com/example/singlet/singlet/network/Domain" L_DM [(.ref va), (.ref pr), (.ref nx), (.ref pv), (.ref rm), (.int (0 : Int32)), (.int (3 : Int32)), .null, (.int (-1 : Int32))] := O_n
              clear O_n
              exact WP.ret0 d3_196 rfl (by decide) (by decide) ⟨rfl, va, _, _, _, _, _, _, _, _, O_q, A_va⟩
            exfalso; omega
          exfalso; omega
        exfalso; omega
      exfalso; omega
    exfalso; omega
  exfalso; omega
theorem c1_4 {l : Launch} {Z : State} {a0 : Array Value} (hw : HW Z a0) {n0 : Nat} {h : Heap} (q a : Addr) (y0 y1 y2 y3 : Int32) (g_q : n0 ≤ q) (O_q : Ob Z h q "com/example/singlet/singlet/network/Domain" L_DM [.null, .null, .null, .null, .null, (.int 0), (.int 0), .null, (.int 0)]) (A_a : Av Z h a .int [(.int y0), (.int y1), (.int y2), (.int y3)]) (E_a : Exa Z h a "[I") (hs : y0.toInt < y1.toInt ∧ y1.toInt < y2.toInt ∧ y2.toInt < y3.toInt) (n_qa : q ≠ a) : OMet l (⟨"com/example/singlet/singlet/network/Domain", "<init>", "([I)V"⟩ : MethodName) B2 Z n0 #[(.ref q), (.ref a)] h (fun v h' => v = none ∧ ∃ (va : Addr) (z1 z2 z3 z4 z5 z6 z7 z8 : Value), Ob Z h' q "com/example/singlet/singlet/network/Domain" L_DM [.ref va, z1, z2, z3, z4, z5, z6, z7, z8] ∧ Av Z h' va .int [(.int y0), (.int y1), (.int y2), (.int y3)]) := by
  refine OMet.of_wp (ls0 := #[.val (.ref q), .val (.ref a)]) pl2 rfl rfl (fun m => own_entry 0 rfl rfl) ?_
  have k32_m1 : (-1 : Int32).toInt = -1 := by decide
  refine WP.aloadN d2_0 rfl rfl (pc' := 1) rfl ?_
  refine WP.aloadN d2_1 rfl rfl (pc' := 2) rfl ?_
  refine WP.aconstNull d2_2 (pc' := 3) rfl ?_
  refine WP.iconst d2_3 (z := (-1 : Int32)) rfl (pc' := 4) rfl ?_
  refine WP.callI (a := q) (y := (⟨"com/example/singlet/singlet/network/Domain", "<init>", "([ILcom/example/singlet/singlet/network/Trail;I)V"⟩ : MethodName)) (By := B3) (as := [(.ref a), .null, (.int (-1 : Int32))]) (rest := []) d2_4 (w13 hw) (w14 hw) (w9 hw) (w15 hw) rfl rfl (by decide) (c2_4 hw q a y0 y1 y2 y3 g_q O_q A_a E_a hs n_qa) pd_0 rfl rfl rfl (by decide) (Nat.le_of_ble_eq_true rfl) (by decide) (by decide) (pc' := 7) rfl ?_
  rintro _ h1 ⟨rfl, hQ⟩
  show WP _ _ _ _ _ _ _ _ _ _ []
  exact WP.ret0 d2_7 rfl (by decide) (by decide) ⟨rfl, hQ⟩
theorem fal_4 {l : Launch} {Z : State} {a0 : Array Value} (hw : HW Z a0) {n0 : Nat} {h : Heap} (q va : Addr) (t : Int64) (y0 y1 y2 y3 : Int32) (z1 z2 z3 z4 z5 z6 z7 z8 : Value) (O_q : Ob Z h q "com/example/singlet/singlet/network/Domain" L_DM [.ref va, z1, z2, z3, z4, z5, z6, z7, z8]) (A_va : Av Z h va .int [(.int y0), (.int y1), (.int y2), (.int y3)]) (hs : y0.toInt < y1.toInt ∧ y1.toInt < y2.toInt ∧ y2.toInt < y3.toInt) : OMet l (⟨"com/example/singlet/singlet/network/Domain", "firstAtLeast", "(J)I"⟩ : MethodName) B5 Z n0 #[(.ref q), (.long t)] h (fun v h' => h = h' ∧ ∃ r : Int32, v = some (.int r) ∧ 0 ≤ r.toInt ∧ r.toInt ≤ 4 ∧ ((y0.toInt < t.toInt ∧ 0 < r.toInt) ∨ (t.toInt ≤ y0.toInt ∧ r.toInt ≤ 0)) ∧ ((y1.toInt < t.toInt ∧ 1 < r.toInt) ∨ (t.toInt ≤ y1.toInt ∧ r.toInt ≤ 1)) ∧ ((y2.toInt < t.toInt ∧ 2 < r.toInt) ∨ (t.toInt ≤ y2.toInt ∧ r.toInt ≤ 2)) ∧ ((y3.toInt < t.toInt ∧ 3 < r.toInt) ∨ (t.toInt ≤ y3.toInt ∧ r.toInt ≤ 3))) := by
  refine OMet.of_wp (ls0 := #[.val (.ref q), .val (.long t), .second, .unset, .unset, .unset]) pl5 rfl rfl (fun m => own_entry 3 rfl rfl) ?_
  have c_y0 := c_i2l y0
  have c_y1 := c_i2l y1
  have c_y2 := c_i2l y2
  have c_y3 := c_i2l y3
  have k32_0 : (0 : Int32).toInt = 0 := by decide
  have k32_1 : (1 : Int32).toInt = 1 := by decide
  have k32_2 : (2 : Int32).toInt = 2 := by decide
  have k32_3 : (3 : Int32).toInt = 3 := by decide
  have k32_4 : (4 : Int32).toInt = 4 := by decide
  have k32_7 : (7 : Int32).toInt = 7 := by decide
  refine WP.iconst d5_0 (z := (0 : Int32)) rfl (pc' := 1) rfl ?_
  refine WP.istoreN d5_1 (pc' := 2) rfl (ls' := #[.val (.ref q), .val (.long t), .second, .val (.int (0 : Int32)), .unset, .unset]) rfl ?_
  refine WP.aloadN d5_2 rfl rfl (pc' := 3) rfl ?_
  refine WP.getf (i := 0) (v := (.ref va)) d5_3 (w28 hw) O_q rfl rfl (pc' := 6) rfl ?_
  refine WP.alen d5_6 A_va (k := (4 : Int32)) rfl (pc' := 7) rfl ?_
  refine WP.istore d5_7 (pc' := 9) rfl (ls' := #[.val (.ref q), .val (.long t), .second, .val (.int (0 : Int32)), .val (.int (4 : Int32)), .unset]) rfl ?_
  refine WP.iloadN d5_9 rfl (pc' := 10) rfl ?_
  refine WP.iload d5_10 rfl (pc' := 12) rfl ?_
  refine WP.icmpGe d5_12 (tgt := 51) (by decide) (pc' := 15) rfl (fun c12 => ?_) (fun c12 => ?_)
  · exfalso; omega
  refine WP.iloadN d5_15 rfl (pc' := 16) rfl ?_
  refine WP.iload d5_16 rfl (pc' := 18) rfl ?_
  refine WP.iadd d5_18 (pc' := 19) rfl ?_
  rw [show (((0 : Int32) + (4 : Int32)) : Int32) = (4 : Int32) from by decide]
  refine WP.iconst d5_19 (z := (1 : Int32)) rfl (pc' := 20) rfl ?_
  refine WP.iushr d5_20 (pc' := 21) rfl ?_
  rw [show (ushr (4 : Int32) (1 : Int32)) = (2 : Int32) from by decide]
  refine WP.istore d5_21 (pc' := 23) rfl (ls' := #[.val (.ref q), .val (.long t), .second, .val (.int (0 : Int32)), .val (.int (4 : Int32)), .val (.int (2 : Int32))]) rfl ?_
  refine WP.aloadN d5_23 rfl rfl (pc' := 24) rfl ?_
  refine WP.getf (i := 0) (v := (.ref va)) d5_24 (w28 hw) O_q rfl rfl (pc' := 27) rfl ?_
  refine WP.iload d5_27 rfl (pc' := 29) rfl ?_
  refine WP.iaload 2 d5_29 A_va (x := y2) rfl rfl (pc' := 30) rfl ?_
  refine WP.i2l d5_30 (pc' := 31) rfl ?_
  refine WP.lloadN d5_31 rfl (pc' := 32) rfl ?_
  refine WP.lcmpGe d5_32 rfl d5_33 (tgt := 44) (by decide) (pc' := 36) rfl (fun c32 => ?_) (fun c32 => ?_)
  ·
    refine WP.iload d5_44 rfl (pc' := 46) rfl ?_
    refine WP.istore d5_46 (pc' := 48) rfl (ls' := #[.val (.ref q), .val (.long t), .second, .val (.int (0 : Int32)), .val (.int (2 : Int32)), .val (.int (2 : Int32))]) rfl ?_
    refine WP.goto d5_48 (pc' := 9) (by decide) ?_
    refine WP.iloadN d5_9 rfl (pc' := 10) rfl ?_
    refine WP.iload d5_10 rfl (pc' := 12) rfl ?_
    refine WP.icmpGe d5_12 (tgt := 51) (by decide) (pc' := 15) rfl (fun c12 => ?_) (fun c12 => ?_)
    · exfalso; omega
    refine WP.iloadN d5_15 rfl (pc' := 16) rfl ?_
    refine WP.iload d5_16 rfl (pc' := 18) rfl ?_
    refine WP.iadd d5_18 (pc' := 19) rfl ?_
    rw [show (((0 : Int32) + (2 : Int32)) : Int32) = (2 : Int32) from by decide]
    refine WP.iconst d5_19 (z := (1 : Int32)) rfl (pc' := 20) rfl ?_
    refine WP.iushr d5_20 (pc' := 21) rfl ?_
    rw [show (ushr (2 : Int32) (1 : Int32)) = (1 : Int32) from by decide]
    refine WP.istore d5_21 (pc' := 23) rfl (ls' := #[.val (.ref q), .val (.long t), .second, .val (.int (0 : Int32)), .val (.int (2 : Int32)), .val (.int (1 : Int32))]) rfl ?_
    refine WP.aloadN d5_23 rfl rfl (pc' := 24) rfl ?_
    refine WP.getf (i := 0) (v := (.ref va)) d5_24 (w28 hw) O_q rfl rfl (pc' := 27) rfl ?_
    refine WP.iload d5_27 rfl (pc' := 29) rfl ?_
    refine WP.iaload 1 d5_29 A_va (x := y1) rfl rfl (pc' := 30) rfl ?_
    refine WP.i2l d5_30 (pc' := 31) rfl ?_
    refine WP.lloadN d5_31 rfl (pc' := 32) rfl ?_
    refine WP.lcmpGe d5_32 rfl d5_33 (tgt := 44) (by decide) (pc' := 36) rfl (fun c32 => ?_) (fun c32 => ?_)
    ·
      refine WP.iload d5_44 rfl (pc' := 46) rfl ?_
      refine WP.istore d5_46 (pc' := 48) rfl (ls' := #[.val (.ref q), .val (.long t), .second, .val (.int (0 : Int32)), .val (.int (1 : Int32)), .val (.int (1 : Int32))]) rfl ?_
      refine WP.goto d5_48 (pc' := 9) (by decide) ?_
      refine WP.iloadN d5_9 rfl (pc' := 10) rfl ?_
      refine WP.iload d5_10 rfl (pc' := 12) rfl ?_
      refine WP.icmpGe d5_12 (tgt := 51) (by decide) (pc' := 15) rfl (fun c12 => ?_) (fun c12 => ?_)
      · exfalso; omega
      refine WP.iloadN d5_15 rfl (pc' := 16) rfl ?_
      refine WP.iload d5_16 rfl (pc' := 18) rfl ?_
      refine WP.iadd d5_18 (pc' := 19) rfl ?_
      rw [show (((0 : Int32) + (1 : Int32)) : Int32) = (1 : Int32) from by decide]
      refine WP.iconst d5_19 (z := (1 : Int32)) rfl (pc' := 20) rfl ?_
      refine WP.iushr d5_20 (pc' := 21) rfl ?_
      rw [show (ushr (1 : Int32) (1 : Int32)) = (0 : Int32) from by decide]
      refine WP.istore d5_21 (pc' := 23) rfl (ls' := #[.val (.ref q), .val (.long t), .second, .val (.int (0 : Int32)), .val (.int (1 : Int32)), .val (.int (0 : Int32))]) rfl ?_
      refine WP.aloadN d5_23 rfl rfl (pc' := 24) rfl ?_
      refine WP.getf (i := 0) (v := (.ref va)) d5_24 (w28 hw) O_q rfl rfl (pc' := 27) rfl ?_
      refine WP.iload d5_27 rfl (pc' := 29) rfl ?_
      refine WP.iaload 0 d5_29 A_va (x := y0) rfl rfl (pc' := 30) rfl ?_
      refine WP.i2l d5_30 (pc' := 31) rfl ?_
      refine WP.lloadN d5_31 rfl (pc' := 32) rfl ?_
      refine WP.lcmpGe d5_32 rfl d5_33 (tgt := 44) (by decide) (pc' := 36) rfl (fun c32 => ?_) (fun c32 => ?_)
      ·
        refine WP.iload d5_44 rfl (pc' := 46) rfl ?_
        refine WP.istore d5_46 (pc' := 48) rfl (ls' := #[.val (.ref q), .val (.long t), .second, .val (.int (0 : Int32)), .val (.int (0 : Int32)), .val (.int (0 : Int32))]) rfl ?_
        refine WP.goto d5_48 (pc' := 9) (by decide) ?_
        refine WP.iloadN d5_9 rfl (pc' := 10) rfl ?_
        refine WP.iload d5_10 rfl (pc' := 12) rfl ?_
        refine WP.icmpGe d5_12 (tgt := 51) (by decide) (pc' := 15) rfl (fun c12 => ?_) (fun c12 => ?_)
        ·
          refine WP.iloadN d5_51 rfl (pc' := 52) rfl ?_
          exact WP.retI d5_52 rfl (by decide) (by decide) ⟨rfl, _, rfl, by omega, by omega, by refine ⟨?_, ?_, ?_, ?_⟩ <;> omega⟩
        exfalso; omega
      refine WP.iload d5_36 rfl (pc' := 38) rfl ?_
      refine WP.iconst d5_38 (z := (1 : Int32)) rfl (pc' := 39) rfl ?_
      refine WP.iadd d5_39 (pc' := 40) rfl ?_
      rw [show (((0 : Int32) + (1 : Int32)) : Int32) = (1 : Int32) from by decide]
      refine WP.istoreN d5_40 (pc' := 41) rfl (ls' := #[.val (.ref q), .val (.long t), .second, .val (.int (1 : Int32)), .val (.int (1 : Int32)), .val (.int (0 : Int32))]) rfl ?_
      refine WP.goto d5_41 (pc' := 48) (by decide) ?_
      refine WP.goto d5_48 (pc' := 9) (by decide) ?_
      refine WP.iloadN d5_9 rfl (pc' := 10) rfl ?_
      refine WP.iload d5_10 rfl (pc' := 12) rfl ?_
      refine WP.icmpGe d5_12 (tgt := 51) (by decide) (pc' := 15) rfl (fun c12 => ?_) (fun c12 => ?_)
      ·
        refine WP.iloadN d5_51 rfl (pc' := 52) rfl ?_
        exact WP.retI d5_52 rfl (by decide) (by decide) ⟨rfl, _, rfl, by omega, by omega, by refine ⟨?_, ?_, ?_, ?_⟩ <;> omega⟩
      exfalso; omega
    refine WP.iload d5_36 rfl (pc' := 38) rfl ?_
    refine WP.iconst d5_38 (z := (1 : Int32)) rfl (pc' := 39) rfl ?_
    refine WP.iadd d5_39 (pc' := 40) rfl ?_
    rw [show (((1 : Int32) + (1 : Int32)) : Int32) = (2 : Int32) from by decide]
    refine WP.istoreN d5_40 (pc' := 41) rfl (ls' := #[.val (.ref q), .val (.long t), .second, .val (.int (2 : Int32)), .val (.int (2 : Int32)), .val (.int (1 : Int32))]) rfl ?_
    refine WP.goto d5_41 (pc' := 48) (by decide) ?_
    refine WP.goto d5_48 (pc' := 9) (by decide) ?_
    refine WP.iloadN d5_9 rfl (pc' := 10) rfl ?_
    refine WP.iload d5_10 rfl (pc' := 12) rfl ?_
    refine WP.icmpGe d5_12 (tgt := 51) (by decide) (pc' := 15) rfl (fun c12 => ?_) (fun c12 => ?_)
    ·
      refine WP.iloadN d5_51 rfl (pc' := 52) rfl ?_
      exact WP.retI d5_52 rfl (by decide) (by decide) ⟨rfl, _, rfl, by omega, by omega, by refine ⟨?_, ?_, ?_, ?_⟩ <;> omega⟩
    exfalso; omega
  refine WP.iload d5_36 rfl (pc' := 38) rfl ?_
  refine WP.iconst d5_38 (z := (1 : Int32)) rfl (pc' := 39) rfl ?_
  refine WP.iadd d5_39 (pc' := 40) rfl ?_
  rw [show (((2 : Int32) + (1 : Int32)) : Int32) = (3 : Int32) from by decide]
  refine WP.istoreN d5_40 (pc' := 41) rfl (ls' := #[.val (.ref q), .val (.long t), .second, .val (.int (3 : Int32)), .val (.int (4 : Int32)), .val (.int (2 : Int32))]) rfl ?_
  refine WP.goto d5_41 (pc' := 48) (by decide) ?_
  refine WP.goto d5_48 (pc' := 9) (by decide) ?_
  refine WP.iloadN d5_9 rfl (pc' := 10) rfl ?_
  refine WP.iload d5_10 rfl (pc' := 12) rfl ?_
  refine WP.icmpGe d5_12 (tgt := 51) (by decide) (pc' := 15) rfl (fun c12 => ?_) (fun c12 => ?_)
  · exfalso; omega
  refine WP.iloadN d5_15 rfl (pc' := 16) rfl ?_
  refine WP.iload d5_16 rfl (pc' := 18) rfl ?_
  refine WP.iadd d5_18 (pc' := 19) rfl ?_
  rw [show (((3 : Int32) + (4 : Int32)) : Int32) = (7 : Int32) from by decide]
  refine WP.iconst d5_19 (z := (1 : Int32)) rfl (pc' := 20) rfl ?_
  refine WP.iushr d5_20 (pc' := 21) rfl ?_
  rw [show (ushr (7 : Int32) (1 : Int32)) = (3 : Int32) from by decide]
  refine WP.istore d5_21 (pc' := 23) rfl (ls' := #[.val (.ref q), .val (.long t), .second, .val (.int (3 : Int32)), .val (.int (4 : Int32)), .val (.int (3 : Int32))]) rfl ?_
  refine WP.aloadN d5_23 rfl rfl (pc' := 24) rfl ?_
  refine WP.getf (i := 0) (v := (.ref va)) d5_24 (w28 hw) O_q rfl rfl (pc' := 27) rfl ?_
  refine WP.iload d5_27 rfl (pc' := 29) rfl ?_
  refine WP.iaload 3 d5_29 A_va (x := y3) rfl rfl (pc' := 30) rfl ?_
  refine WP.i2l d5_30 (pc' := 31) rfl ?_
  refine WP.lloadN d5_31 rfl (pc' := 32) rfl ?_
  refine WP.lcmpGe d5_32 rfl d5_33 (tgt := 44) (by decide) (pc' := 36) rfl (fun c32 => ?_) (fun c32 => ?_)
  ·
    refine WP.iload d5_44 rfl (pc' := 46) rfl ?_
    refine WP.istore d5_46 (pc' := 48) rfl (ls' := #[.val (.ref q), .val (.long t), .second, .val (.int (3 : Int32)), .val (.int (3 : Int32)), .val (.int (3 : Int32))]) rfl ?_
    refine WP.goto d5_48 (pc' := 9) (by decide) ?_
    refine WP.iloadN d5_9 rfl (pc' := 10) rfl ?_
    refine WP.iload d5_10 rfl (pc' := 12) rfl ?_
    refine WP.icmpGe d5_12 (tgt := 51) (by decide) (pc' := 15) rfl (fun c12 => ?_) (fun c12 => ?_)
    ·
      refine WP.iloadN d5_51 rfl (pc' := 52) rfl ?_
      exact WP.retI d5_52 rfl (by decide) (by decide) ⟨rfl, _, rfl, by omega, by omega, by refine ⟨?_, ?_, ?_, ?_⟩ <;> omega⟩
    exfalso; omega
  refine WP.iload d5_36 rfl (pc' := 38) rfl ?_
  refine WP.iconst d5_38 (z := (1 : Int32)) rfl (pc' := 39) rfl ?_
  refine WP.iadd d5_39 (pc' := 40) rfl ?_
  rw [show (((3 : Int32) + (1 : Int32)) : Int32) = (4 : Int32) from by decide]
  refine WP.istoreN d5_40 (pc' := 41) rfl (ls' := #[.val (.ref q), .val (.long t), .second, .val (.int (4 : Int32)), .val (.int (4 : Int32)), .val (.int (3 : Int32))]) rfl ?_
  refine WP.goto d5_41 (pc' := 48) (by decide) ?_
  refine WP.goto d5_48 (pc' := 9) (by decide) ?_
  refine WP.iloadN d5_9 rfl (pc' := 10) rfl ?_
  refine WP.iload d5_10 rfl (pc' := 12) rfl ?_
  refine WP.icmpGe d5_12 (tgt := 51) (by decide) (pc' := 15) rfl (fun c12 => ?_) (fun c12 => ?_)
  ·
    refine WP.iloadN d5_51 rfl (pc' := 52) rfl ?_
    exact WP.retI d5_52 rfl (by decide) (by decide) ⟨rfl, _, rfl, by omega, by omega, by refine ⟨?_, ?_, ?_, ?_⟩ <;> omega⟩
  exfalso; omega
theorem law_385_0 {l : Launch} {Z : State} {a0 : Array Value} (hw : HW Z a0) {n0 : Nat} {h : Heap} (a p q r : Int32) (b : Int64) (mode near small k : Int32) (g1 g2 g3 v0 v1 v2 v3 : Int64) (kk : Int32) (vk bd : Int64) (b1 : Addr)  (A_b1 : Av Z h b1 .int []) (E_b1 : Exa Z h b1 "[I") (hv : v0.toInt < v1.toInt ∧ v1.toInt < v2.toInt ∧ v2.toInt < v3.toInt) : WP l B0 Z n0 (fun v h' => v = some (.int 1)) h 1 0 385 #[.val (.int a), .val (.int p), .val (.int q), .val (.int r), .val (.long b), .second, .val (.int mode), .val (.int (0 : Int32)), .val (.int near), .val (.int small), .val (.int k), .val (.long g1), .second, .val (.long g2), .second, .val (.long g3), .second, .val (.long v0), .second, .val (.long v1), .second, .val (.long v2), .second, .val (.long v3), .second, .val (.long v0), .second, .val (.ref b1), .val (.int kk), .val (.long vk), .second, .val (.long bd), .second, .unset, .unset] [] := by
  have k32_0 : (0 : Int32).toInt = 0 := by decide
  have k32_1 : (1 : Int32).toInt = 1 := by decide
  have k32_2 : (2 : Int32).toInt = 2 := by decide
  have k32_3 : (3 : Int32).toInt = 3 := by decide
  refine WP.iload at_385 rfl (pc' := 387) rfl ?_
  refine WP.ifLe at_387 (tgt := 394) (by decide) (pc' := 390) rfl (fun c387 => ?_) (fun c387 => ?_)
  ·
    refine WP.iconst at_394 (z := (0 : Int32)) rfl (pc' := 395) rfl ?_
    refine WP.lload at_395 rfl (pc' := 397) rfl ?_
    refine WP.lload at_397 rfl (pc' := 399) rfl ?_
    refine WP.callS (y := (⟨"com/example/singlet/singlet/network/DomainFirstAtLeastPinLaw", "below", "(ZJJ)I"⟩ : MethodName)) (By := B1) (as := [(.int (0 : Int32)), (.long v0), (.long bd)]) (rest := []) at_399 (w3 hw) (w4 hw) (w5 hw) (w6 hw) (by decide) (bel_met hw (0 : Int32) v0 bd) pd_1 rfl rfl rfl (by decide) (Nat.le_of_ble_eq_true rfl) (by decide) (by decide) (pc' := 402) rfl ?_
    rintro _ _ ⟨rfl, c0, rfl, hc0⟩
    show WP _ _ _ _ _ _ _ _ _ _ [(.int c0)]
    refine WP.iload at_402 rfl (pc' := 404) rfl ?_
    refine WP.iconst at_404 (z := (1 : Int32)) rfl (pc' := 405) rfl ?_
    refine WP.icmpLe at_405 (tgt := 412) (by decide) (pc' := 408) rfl (fun c405 => ?_) (fun c405 => ?_)
    ·
      refine WP.iconst at_412 (z := (0 : Int32)) rfl (pc' := 413) rfl ?_
      refine WP.lload at_413 rfl (pc' := 415) rfl ?_
      refine WP.lload at_415 rfl (pc' := 417) rfl ?_
      refine WP.callS (y := (⟨"com/example/singlet/singlet/network/DomainFirstAtLeastPinLaw", "below", "(ZJJ)I"⟩ : MethodName)) (By := B1) (as := [(.int (0 : Int32)), (.long v1), (.long bd)]) (rest := [(.int c0)]) at_417 (w3 hw) (w4 hw) (w5 hw) (w6 hw) (by decide) (bel_met hw (0 : Int32) v1 bd) pd_1 rfl rfl rfl (by decide) (Nat.le_of_ble_eq_true rfl) (by decide) (by decide) (pc' := 420) rfl ?_
      rintro _ _ ⟨rfl, c1, rfl, hc1⟩
      show WP _ _ _ _ _ _ _ _ _ _ [(.int c1), (.int c0)]
      refine WP.iadd at_420 (pc' := 421) rfl ?_
      refine WP.iload at_421 rfl (pc' := 423) rfl ?_
      refine WP.iconst at_423 (z := (2 : Int32)) rfl (pc' := 424) rfl ?_
      refine WP.icmpLe at_424 (tgt := 431) (by decide) (pc' := 427) rfl (fun c424 => ?_) (fun c424 => ?_)
      ·
        refine WP.iconst at_431 (z := (0 : Int32)) rfl (pc' := 432) rfl ?_
        refine WP.lload at_432 rfl (pc' := 434) rfl ?_
        refine WP.lload at_434 rfl (pc' := 436) rfl ?_
        refine WP.callS (y := (⟨"com/example/singlet/singlet/network/DomainFirstAtLeastPinLaw", "below", "(ZJJ)I"⟩ : MethodName)) (By := B1) (as := [(.int (0 : Int32)), (.long v2), (.long bd)]) (rest := [(.int (c0 + c1))]) at_436 (w3 hw) (w4 hw) (w5 hw) (w6 hw) (by decide) (bel_met hw (0 : Int32) v2 bd) pd_1 rfl rfl rfl (by decide) (Nat.le_of_ble_eq_true rfl) (by decide) (by decide) (pc' := 439) rfl ?_
        rintro _ _ ⟨rfl, c2, rfl, hc2⟩
        show WP _ _ _ _ _ _ _ _ _ _ [(.int c2), (.int (c0 + c1))]
        refine WP.iadd at_439 (pc' := 440) rfl ?_
        refine WP.iload at_440 rfl (pc' := 442) rfl ?_
        refine WP.iconst at_442 (z := (3 : Int32)) rfl (pc' := 443) rfl ?_
        refine WP.icmpLe at_443 (tgt := 450) (by decide) (pc' := 446) rfl (fun c443 => ?_) (fun c443 => ?_)
        ·
          refine WP.iconst at_450 (z := (0 : Int32)) rfl (pc' := 451) rfl ?_
          refine WP.lload at_451 rfl (pc' := 453) rfl ?_
          refine WP.lload at_453 rfl (pc' := 455) rfl ?_
          refine WP.callS (y := (⟨"com/example/singlet/singlet/network/DomainFirstAtLeastPinLaw", "below", "(ZJJ)I"⟩ : MethodName)) (By := B1) (as := [(.int (0 : Int32)), (.long v3), (.long bd)]) (rest := [(.int ((c0 + c1) + c2))]) at_455 (w3 hw) (w4 hw) (w5 hw) (w6 hw) (by decide) (bel_met hw (0 : Int32) v3 bd) pd_1 rfl rfl rfl (by decide) (Nat.le_of_ble_eq_true rfl) (by decide) (by decide) (pc' := 458) rfl ?_
          rintro _ _ ⟨rfl, c3, rfl, hc3⟩
          show WP _ _ _ _ _ _ _ _ _ _ [(.int c3), (.int ((c0 + c1) + c2))]
          refine WP.iadd at_458 (pc' := 459) rfl ?_
          obtain ⟨ex, e_ex⟩ : ∃ z, z = (((c0 + c1) + c2) + c3) := ⟨_, rfl⟩
          rw [← e_ex]
          refine WP.istore at_459 (pc' := 461) rfl (ls' := #[.val (.int a), .val (.int p), .val (.int q), .val (.int r), .val (.long b), .second, .val (.int mode), .val (.int (0 : Int32)), .val (.int near), .val (.int small), .val (.int k), .val (.long g1), .second, .val (.long g2), .second, .val (.long g3), .second, .val (.long v0), .second, .val (.long v1), .second, .val (.long v2), .second, .val (.long v3), .second, .val (.long v0), .second, .val (.ref b1), .val (.int kk), .val (.long vk), .second, .val (.long bd), .second, .val (.int ex), .unset]) rfl ?_
          have f1 : (c0 + c1).toInt = c0.toInt + c1.toInt := by rw [own_iadd] <;> omega
          have f2 : (c0 + c1 + c2).toInt = c0.toInt + c1.toInt + c2.toInt := by rw [own_iadd] <;> omega
          have f3 : ex.toInt = c0.toInt + c1.toInt + c2.toInt + c3.toInt := by rw [e_ex, own_iadd] <;> omega
          clear f1 f2
          refine WP.newobj (lay := L_DM) (vs := [.null, .null, .null, .null, .null, (.int 0), (.int 0), .null, (.int 0)]) at_461 (w7 hw) (w8 hw) (w9 hw) (lay_DM hw) rfl (by decide) (by decide) (pc' := 464) rfl ?_
          intro d h5 eb_d g_d K6 O_d
          have lt_b1_d : b1 < d := by rw [eb_d]; exact A_b1.lt
          replace E_b1 := E_b1.keep K6
          replace A_b1 := A_b1.keep K6 own_nil
          refine WP.dup at_464 rfl (pc' := 465) rfl ?_
          refine WP.aload at_465 rfl rfl (pc' := 467) rfl ?_
          refine WP.callI (a := d) (y := (⟨"com/example/singlet/singlet/network/Domain", "<init>", "([I)V"⟩ : MethodName)) (By := B2) (as := [(.ref b1)]) (rest := [(.ref d)]) at_467 (w10 hw) (w11 hw) (w9 hw) (w12 hw) rfl rfl (by decide) (c1_0 hw d b1  g_d O_d A_b1 E_b1 trivial (by first | assumption | exact Ne.symm (by assumption) | exact Nat.ne_of_lt (by assumption) | exact Nat.ne_of_gt (by assumption))) pd_2 rfl rfl rfl (by decide) (Nat.le_of_ble_eq_true rfl) (by decide) (by decide) (pc' := 470) rfl ?_
          rintro _ h7 ⟨rfl, va, z1, z2, z3, z4, z5, z6, z7, z8, O_n, A_va⟩
          replace O_d := O_n
          show WP _ _ _ _ _ _ _ _ _ _ [(.ref d)]
          refine WP.astore at_470 (pc' := 472) rfl rfl (ls' := #[.val (.int a), .val (.int p), .val (.int q), .val (.int r), .val (.long b), .second, .val (.int mode), .val (.int (0 : Int32)), .val (.int near), .val (.int small), .val (.int k), .val (.long g1), .second, .val (.long g2), .second, .val (.long g3), .second, .val (.long v0), .second, .val (.long v1), .second, .val (.long v2), .second, .val (.long v3), .second, .val (.long v0), .second, .val (.ref b1), .val (.int kk), .val (.long vk), .second, .val (.long bd), .second, .val (.int ex), .val (.ref d)]) rfl ?_
          refine WP.aload at_472 rfl rfl (pc' := 474) rfl ?_
          refine WP.lload at_474 rfl (pc' := 476) rfl ?_
          refine WP.callV (a := d) (z := (⟨"com/example/singlet/singlet/network/Domain", "firstAtLeast", "(J)I"⟩ : MethodName)) (Cl := "com/example/singlet/singlet/network/Domain") (y := (⟨"com/example/singlet/singlet/network/Domain", "firstAtLeast", "(J)I"⟩ : MethodName)) (By := B5) (as := [(.long bd)]) (rest := []) at_476 (w47 hw) (w48 hw) (w50 hw) (w49 hw) (w9 hw) (w51 hw) rfl rfl (by decide) O_d.1 (fal_0 hw d va bd  z1 z2 z3 z4 z5 z6 z7 z8 O_d A_va trivial) pd_3 rfl rfl rfl (by decide) (Nat.le_of_ble_eq_true rfl) (by decide) (by decide) (pc' := 479) rfl ?_
          rintro _ _ ⟨rfl, fr, rfl, hf1, hf2, -⟩
          show WP _ _ _ _ _ _ _ _ _ _ [(.int fr)]
          refine WP.iload at_479 rfl (pc' := 481) rfl ?_
          refine WP.icmpNe at_481 (tgt := 488) (by decide) (pc' := 484) rfl (fun c481 => ?_) (fun c481 => ?_)
          ·
            refine WP.iconst at_488 (z := (0 : Int32)) rfl (pc' := 489) rfl ?_
            exact WP.retN at_489 (t := .boolean) rfl (by simp) (by decide) (by decide) (by exfalso; omega)
          refine WP.iconst at_484 (z := (1 : Int32)) rfl (pc' := 485) rfl ?_
          refine WP.goto at_485 (pc' := 489) (by decide) ?_
          exact WP.retN at_489 (t := .boolean) rfl (by simp) (by decide) (by decide) own_q1
        exfalso; omega
      exfalso; omega
    exfalso; omega
  exfalso; omega
theorem law_144_0 {l : Launch} {Z : State} {a0 : Array Value} (hw : HW Z a0) {n0 : Nat} {h : Heap} (a p q r : Int32) (b : Int64) (mode near small k : Int32) (g1 g2 g3 v0 v1 v2 v3 : Int64) (hv : v0.toInt < v1.toInt ∧ v1.toInt < v2.toInt ∧ v2.toInt < v3.toInt) (hr : -2147483648 ≤ v0.toInt ∧ v0.toInt ≤ 2147483647) : WP l B0 Z n0 (fun v h' => v = some (.int 1)) h 0 0 144 #[.val (.int a), .val (.int p), .val (.int q), .val (.int r), .val (.long b), .second, .val (.int mode), .val (.int (0 : Int32)), .val (.int near), .val (.int small), .val (.int k), .val (.long g1), .second, .val (.long g2), .second, .val (.long g3), .second, .val (.long v0), .second, .val (.long v1), .second, .val (.long v2), .second, .val (.long v3), .second, .unset, .unset, .unset, .unset, .unset, .unset, .unset, .unset, .unset, .unset] [] := by
  have k32_0 : (0 : Int32).toInt = 0 := by decide
  have k32_1 : (1 : Int32).toInt = 1 := by decide
  have k64_3 : (3 : Int64).toInt = 3 := by decide
  have k64_2147483647 : (2147483647 : Int64).toInt = 2147483647 := by decide
  refine WP.iload at_144 rfl (pc' := 146) rfl ?_
  refine WP.iconst at_146 (z := (1 : Int32)) rfl (pc' := 147) rfl ?_
  refine WP.icmpGt at_147 (tgt := 155) (by decide) (pc' := 150) rfl (fun c147 => ?_) (fun c147 => ?_)
  · exfalso; omega
  refine WP.lload at_150 rfl (pc' := 152) rfl ?_
  refine WP.goto at_152 (pc' := 179) (by decide) ?_
  refine WP.lstore at_179 (pc' := 181) rfl (ls' := #[.val (.int a), .val (.int p), .val (.int q), .val (.int r), .val (.long b), .second, .val (.int mode), .val (.int (0 : Int32)), .val (.int near), .val (.int small), .val (.int k), .val (.long g1), .second, .val (.long g2), .second, .val (.long g3), .second, .val (.long v0), .second, .val (.long v1), .second, .val (.long v2), .second, .val (.long v3), .second, .val (.long v0), .second, .unset, .unset, .unset, .unset, .unset, .unset, .unset, .unset]) rfl ?_
  refine WP.lload at_181 rfl (pc' := 183) rfl ?_
  refine WP.ldc2J at_183 (w1 hw) (pc' := 186) rfl ?_
  refine WP.lcmpLe at_186 rfl at_187 (tgt := 192) (by decide) (pc' := 190) rfl (fun c186 => ?_) (fun c186 => ?_)
  ·
    refine WP.iload at_192 rfl (pc' := 194) rfl ?_
    refine WP.ifNe at_194 (tgt := 205) (by decide) (pc' := 197) rfl (fun c194 => ?_) (fun c194 => ?_)
    · exfalso; omega
    refine WP.iconst at_197 (z := (0 : Int32)) rfl (pc' := 198) rfl ?_
    refine WP.newarrE at_198 (w2 hw) (k := 0) rfl 0 (by decide) (by decide) (by decide) (by decide) (ad := "[I") (by decide) (pc' := 200) rfl ?_
    intro b1 h1 eb_b1 g_b1 K2 A_b1 E_b1
    replace A_b1 : Av Z h1 b1 .int [] := A_b1
    refine WP.astore at_200 (pc' := 202) rfl rfl (ls' := #[.val (.int a), .val (.int p), .val (.int q), .val (.int r), .val (.long b), .second, .val (.int mode), .val (.int (0 : Int32)), .val (.int near), .val (.int small), .val (.int k), .val (.long g1), .second, .val (.long g2), .second, .val (.long g3), .second, .val (.long v0), .second, .val (.long v1), .second, .val (.long v2), .second, .val (.long v3), .second, .val (.long v0), .second, .val (.ref b1), .unset, .unset, .unset, .unset, .unset, .unset, .unset]) rfl ?_
    refine WP.goto at_202 (pc' := 312) (by decide) ?_
    refine WP.iload at_312 rfl (pc' := 314) rfl ?_
    refine WP.ifNe at_314 (tgt := 321) (by decide) (pc' := 317) rfl (fun c314 => ?_) (fun c314 => ?_)
    · exfalso; omega
    refine WP.iconst at_317 (z := (0 : Int32)) rfl (pc' := 318) rfl ?_
    refine WP.goto at_318 (pc' := 326) (by decide) ?_
    refine WP.istore at_326 (pc' := 328) rfl (ls' := #[.val (.int a), .val (.int p), .val (.int q), .val (.int r), .val (.long b), .second, .val (.int mode), .val (.int (0 : Int32)), .val (.int near), .val (.int small), .val (.int k), .val (.long g1), .second, .val (.long g2), .second, .val (.long g3), .second, .val (.long v0), .second, .val (.long v1), .second, .val (.long v2), .second, .val (.long v3), .second, .val (.long v0), .second, .val (.ref b1), .val (.int (0 : Int32)), .unset, .unset, .unset, .unset, .unset, .unset]) rfl ?_
    refine WP.iload at_328 rfl (pc' := 330) rfl ?_
    refine WP.ifNe at_330 (tgt := 338) (by decide) (pc' := 333) rfl (fun c330 => ?_) (fun c330 => ?_)
    · exfalso; omega
    refine WP.lload at_333 rfl (pc' := 335) rfl ?_
    refine WP.goto at_335 (pc' := 362) (by decide) ?_
    refine WP.lstore at_362 (pc' := 364) rfl (ls' := #[.val (.int a), .val (.int p), .val (.int q), .val (.int r), .val (.long b), .second, .val (.int mode), .val (.int (0 : Int32)), .val (.int near), .val (.int small), .val (.int k), .val (.long g1), .second, .val (.long g2), .second, .val (.long g3), .second, .val (.long v0), .second, .val (.long v1), .second, .val (.long v2), .second, .val (.long v3), .second, .val (.long v0), .second, .val (.ref b1), .val (.int (0 : Int32)), .val (.long v0), .second, .unset, .unset, .unset, .unset]) rfl ?_
    refine WP.iload at_364 rfl (pc' := 366) rfl ?_
    refine WP.ifEq at_366 (tgt := 381) (by decide) (pc' := 369) rfl (fun c366 => ?_) (fun c366 => ?_)
    ·
      refine WP.lload at_381 rfl (pc' := 383) rfl ?_
      refine WP.lstore at_383 (pc' := 385) rfl (ls' := #[.val (.int a), .val (.int p), .val (.int q), .val (.int r), .val (.long b), .second, .val (.int mode), .val (.int (0 : Int32)), .val (.int near), .val (.int small), .val (.int k), .val (.long g1), .second, .val (.long g2), .second, .val (.long g3), .second, .val (.long v0), .second, .val (.long v1), .second, .val (.long v2), .second, .val (.long v3), .second, .val (.long v0), .second, .val (.ref b1), .val (.int (0 : Int32)), .val (.long v0), .second, .val (.long b), .second, .unset, .unset]) rfl ?_
      exact law_385_0 hw a p q r b mode near small k g1 g2 g3 v0 v1 v2 v3 _ _ _ b1  A_b1 E_b1 hv 
    refine WP.lload at_369 rfl (pc' := 371) rfl ?_
    refine WP.lload at_371 rfl (pc' := 373) rfl ?_
    refine WP.ldc2J at_373 (w52 hw) (pc' := 376) rfl ?_
    refine WP.lrem at_376 (by decide) (pc' := 377) rfl ?_
    refine WP.ladd at_377 (pc' := 378) rfl ?_
    refine WP.goto at_378 (pc' := 383) (by decide) ?_
    obtain ⟨bd, e_bd⟩ : ∃ z, z = (v0 + (b - b / (3 : Int64) * (3 : Int64))) := ⟨_, rfl⟩
    rw [← e_bd]
    refine WP.lstore at_383 (pc' := 385) rfl (ls' := #[.val (.int a), .val (.int p), .val (.int q), .val (.int r), .val (.long b), .second, .val (.int mode), .val (.int (0 : Int32)), .val (.int near), .val (.int small), .val (.int k), .val (.long g1), .second, .val (.long g2), .second, .val (.long g3), .second, .val (.long v0), .second, .val (.long v1), .second, .val (.long v2), .second, .val (.long v3), .second, .val (.long v0), .second, .val (.ref b1), .val (.int (0 : Int32)), .val (.long v0), .second, .val (.long bd), .second, .unset, .unset]) rfl ?_
    exact law_385_0 hw a p q r b mode near small k g1 g2 g3 v0 v1 v2 v3 _ _ _ b1  A_b1 E_b1 hv 
  refine WP.iconst at_190 (z := (1 : Int32)) rfl (pc' := 191) rfl ?_
  exact WP.retN at_191 (t := .boolean) rfl (by simp) (by decide) (by decide) own_q1
theorem law_385_1 {l : Launch} {Z : State} {a0 : Array Value} (hw : HW Z a0) {n0 : Nat} {h : Heap} (a p q r : Int32) (b : Int64) (mode near small k : Int32) (g1 g2 g3 v0 v1 v2 v3 : Int64) (kk : Int32) (vk bd : Int64) (b1 : Addr) (y0 : Int32) (A_b1 : Av Z h b1 .int [(.int y0)]) (E_b1 : Exa Z h b1 "[I") (hv : v0.toInt < v1.toInt ∧ v1.toInt < v2.toInt ∧ v2.toInt < v3.toInt) (hy0 : y0.toInt = v0.toInt) : WP l B0 Z n0 (fun v h' => v = some (.int 1)) h 1 1 385 #[.val (.int a), .val (.int p), .val (.int q), .val (.int r), .val (.long b), .second, .val (.int mode), .val (.int (1 : Int32)), .val (.int near), .val (.int small), .val (.int k), .val (.long g1), .second, .val (.long g2), .second, .val (.long g3), .second, .val (.long v0), .second, .val (.long v1), .second, .val (.long v2), .second, .val (.long v3), .second, .val (.long v0), .second, .val (.ref b1), .val (.int kk), .val (.long vk), .second, .val (.long bd), .second, .unset, .unset] [] := by
  have k32_0 : (0 : Int32).toInt = 0 := by decide
  have k32_1 : (1 : Int32).toInt = 1 := by decide
  have k32_2 : (2 : Int32).toInt = 2 := by decide
  have k32_3 : (3 : Int32).toInt = 3 := by decide
  refine WP.iload at_385 rfl (pc' := 387) rfl ?_
  refine WP.ifLe at_387 (tgt := 394) (by decide) (pc' := 390) rfl (fun c387 => ?_) (fun c387 => ?_)
  · exfalso; omega
  refine WP.iconst at_390 (z := (1 : Int32)) rfl (pc' := 391) rfl ?_
  refine WP.goto at_391 (pc' := 395) (by decide) ?_
  refine WP.lload at_395 rfl (pc' := 397) rfl ?_
  refine WP.lload at_397 rfl (pc' := 399) rfl ?_
  refine WP.callS (y := (⟨"com/example/singlet/singlet/network/DomainFirstAtLeastPinLaw", "below", "(ZJJ)I"⟩ : MethodName)) (By := B1) (as := [(.int (1 : Int32)), (.long v0), (.long bd)]) (rest := []) at_399 (w3 hw) (w4 hw) (w5 hw) (w6 hw) (by decide) (bel_met hw (1 : Int32) v0 bd) pd_1 rfl rfl rfl (by decide) (Nat.le_of_ble_eq_true rfl) (by decide) (by decide) (pc' := 402) rfl ?_
  rintro _ _ ⟨rfl, c0, rfl, hc0⟩
  show WP _ _ _ _ _ _ _ _ _ _ [(.int c0)]
  refine WP.iload at_402 rfl (pc' := 404) rfl ?_
  refine WP.iconst at_404 (z := (1 : Int32)) rfl (pc' := 405) rfl ?_
  refine WP.icmpLe at_405 (tgt := 412) (by decide) (pc' := 408) rfl (fun c405 => ?_) (fun c405 => ?_)
  ·
    refine WP.iconst at_412 (z := (0 : Int32)) rfl (pc' := 413) rfl ?_
    refine WP.lload at_413 rfl (pc' := 415) rfl ?_
    refine WP.lload at_415 rfl (pc' := 417) rfl ?_
    refine WP.callS (y := (⟨"com/example/singlet/singlet/network/DomainFirstAtLeastPinLaw", "below", "(ZJJ)I"⟩ : MethodName)) (By := B1) (as := [(.int (0 : Int32)), (.long v1), (.long bd)]) (rest := [(.int c0)]) at_417 (w3 hw) (w4 hw) (w5 hw) (w6 hw) (by decide) (bel_met hw (0 : Int32) v1 bd) pd_1 rfl rfl rfl (by decide) (Nat.le_of_ble_eq_true rfl) (by decide) (by decide) (pc' := 420) rfl ?_
    rintro _ _ ⟨rfl, c1, rfl, hc1⟩
    show WP _ _ _ _ _ _ _ _ _ _ [(.int c1), (.int c0)]
    refine WP.iadd at_420 (pc' := 421) rfl ?_
    refine WP.iload at_421 rfl (pc' := 423) rfl ?_
    refine WP.iconst at_423 (z := (2 : Int32)) rfl (pc' := 424) rfl ?_
    refine WP.icmpLe at_424 (tgt := 431) (by decide) (pc' := 427) rfl (fun c424 => ?_) (fun c424 => ?_)
    ·
      refine WP.iconst at_431 (z := (0 : Int32)) rfl (pc' := 432) rfl ?_
      refine WP.lload at_432 rfl (pc' := 434) rfl ?_
      refine WP.lload at_434 rfl (pc' := 436) rfl ?_
      refine WP.callS (y := (⟨"com/example/singlet/singlet/network/DomainFirstAtLeastPinLaw", "below", "(ZJJ)I"⟩ : MethodName)) (By := B1) (as := [(.int (0 : Int32)), (.long v2), (.long bd)]) (rest := [(.int (c0 + c1))]) at_436 (w3 hw) (w4 hw) (w5 hw) (w6 hw) (by decide) (bel_met hw (0 : Int32) v2 bd) pd_1 rfl rfl rfl (by decide) (Nat.le_of_ble_eq_true rfl) (by decide) (by decide) (pc' := 439) rfl ?_
      rintro _ _ ⟨rfl, c2, rfl, hc2⟩
      show WP _ _ _ _ _ _ _ _ _ _ [(.int c2), (.int (c0 + c1))]
      refine WP.iadd at_439 (pc' := 440) rfl ?_
      refine WP.iload at_440 rfl (pc' := 442) rfl ?_
      refine WP.iconst at_442 (z := (3 : Int32)) rfl (pc' := 443) rfl ?_
      refine WP.icmpLe at_443 (tgt := 450) (by decide) (pc' := 446) rfl (fun c443 => ?_) (fun c443 => ?_)
      ·
        refine WP.iconst at_450 (z := (0 : Int32)) rfl (pc' := 451) rfl ?_
        refine WP.lload at_451 rfl (pc' := 453) rfl ?_
        refine WP.lload at_453 rfl (pc' := 455) rfl ?_
        refine WP.callS (y := (⟨"com/example/singlet/singlet/network/DomainFirstAtLeastPinLaw", "below", "(ZJJ)I"⟩ : MethodName)) (By := B1) (as := [(.int (0 : Int32)), (.long v3), (.long bd)]) (rest := [(.int ((c0 + c1) + c2))]) at_455 (w3 hw) (w4 hw) (w5 hw) (w6 hw) (by decide) (bel_met hw (0 : Int32) v3 bd) pd_1 rfl rfl rfl (by decide) (Nat.le_of_ble_eq_true rfl) (by decide) (by decide) (pc' := 458) rfl ?_
        rintro _ _ ⟨rfl, c3, rfl, hc3⟩
        show WP _ _ _ _ _ _ _ _ _ _ [(.int c3), (.int ((c0 + c1) + c2))]
        refine WP.iadd at_458 (pc' := 459) rfl ?_
        obtain ⟨ex, e_ex⟩ : ∃ z, z = (((c0 + c1) + c2) + c3) := ⟨_, rfl⟩
        rw [← e_ex]
        refine WP.istore at_459 (pc' := 461) rfl (ls' := #[.val (.int a), .val (.int p), .val (.int q), .val (.int r), .val (.long b), .second, .val (.int mode), .val (.int (1 : Int32)), .val (.int near), .val (.int small), .val (.int k), .val (.long g1), .second, .val (.long g2), .second, .val (.long g3), .second, .val (.long v0), .second, .val (.long v1), .second, .val (.long v2), .second, .val (.long v3), .second, .val (.long v0), .second, .val (.ref b1), .val (.int kk), .val (.long vk), .second, .val (.long bd), .second, .val (.int ex), .unset]) rfl ?_
        have f1 : (c0 + c1).toInt = c0.toInt + c1.toInt := by rw [own_iadd] <;> omega
        have f2 : (c0 + c1 + c2).toInt = c0.toInt + c1.toInt + c2.toInt := by rw [own_iadd] <;> omega
        have f3 : ex.toInt = c0.toInt + c1.toInt + c2.toInt + c3.toInt := by rw [e_ex, own_iadd] <;> omega
        clear f1 f2
        refine WP.newobj (lay := L_DM) (vs := [.null, .null, .null, .null, .null, (.int 0), (.int 0), .null, (.int 0)]) at_461 (w7 hw) (w8 hw) (w9 hw) (lay_DM hw) rfl (by decide) (by decide) (pc' := 464) rfl ?_
        intro d h5 eb_d g_d K6 O_d
        have lt_b1_d : b1 < d := by rw [eb_d]; exact A_b1.lt
        replace E_b1 := E_b1.keep K6
        replace A_b1 := A_b1.keep K6 own_nil
        refine WP.dup at_464 rfl (pc' := 465) rfl ?_
        refine WP.aload at_465 rfl rfl (pc' := 467) rfl ?_
        refine WP.callI (a := d) (y := (⟨"com/example/singlet/singlet/network/Domain", "<init>", "([I)V"⟩ : MethodName)) (By := B2) (as := [(.ref b1)]) (rest := [(.ref d)]) at_467 (w10 hw) (w11 hw) (w9 hw) (w12 hw) rfl rfl (by decide) (c1_1 hw d b1 y0 g_d O_d A_b1 E_b1 trivial (by first | assumption | exact Ne.symm (by assumption) | exact Nat.ne_of_lt (by assumption) | exact Nat.ne_of_gt (by assumption))) pd_2 rfl rfl rfl (by decide) (Nat.le_of_ble_eq_true rfl) (by decide) (by decide) (pc' := 470) rfl ?_
        rintro _ h7 ⟨rfl, va, z1, z2, z3, z4, z5, z6, z7, z8, O_n, A_va⟩
        replace O_d := O_n
        show WP _ _ _ _ _ _ _ _ _ _ [(.ref d)]
        refine WP.astore at_470 (pc' := 472) rfl rfl (ls' := #[.val (.int a), .val (.int p), .val (.int q), .val (.int r), .val (.long b), .second, .val (.int mode), .val (.int (1 : Int32)), .val (.int near), .val (.int small), .val (.int k), .val (.long g1), .second, .val (.long g2), .second, .val (.long g3), .second, .val (.long v0), .second, .val (.long v1), .second, .val (.long v2), .second, .val (.long v3), .second, .val (.long v0), .second, .val (.ref b1), .val (.int kk), .val (.long vk), .second, .val (.long bd), .second, .val (.int ex), .val (.ref d)]) rfl ?_
        refine WP.aload at_472 rfl rfl (pc' := 474) rfl ?_
        refine WP.lload at_474 rfl (pc' := 476) rfl ?_
        refine WP.callV (a := d) (z := (⟨"com/example/singlet/singlet/network/Domain", "firstAtLeast", "(J)I"⟩ : MethodName)) (Cl := "com/example/singlet/singlet/network/Domain") (y := (⟨"com/example/singlet/singlet/network/Domain", "firstAtLeast", "(J)I"⟩ : MethodName)) (By := B5) (as := [(.long bd)]) (rest := []) at_476 (w47 hw) (w48 hw) (w50 hw) (w49 hw) (w9 hw) (w51 hw) rfl rfl (by decide) O_d.1 (fal_1 hw d va bd y0 z1 z2 z3 z4 z5 z6 z7 z8 O_d A_va trivial) pd_3 rfl rfl rfl (by decide) (Nat.le_of_ble_eq_true rfl) (by decide) (by decide) (pc' := 479) rfl ?_
        rintro _ _ ⟨rfl, fr, rfl, hf1, hf2, hf10⟩
        show WP _ _ _ _ _ _ _ _ _ _ [(.int fr)]
        refine WP.iload at_479 rfl (pc' := 481) rfl ?_
        refine WP.icmpNe at_481 (tgt := 488) (by decide) (pc' := 484) rfl (fun c481 => ?_) (fun c481 => ?_)
        ·
          refine WP.iconst at_488 (z := (0 : Int32)) rfl (pc' := 489) rfl ?_
          exact WP.retN at_489 (t := .boolean) rfl (by simp) (by decide) (by decide) (by exfalso; omega)
        refine WP.iconst at_484 (z := (1 : Int32)) rfl (pc' := 485) rfl ?_
        refine WP.goto at_485 (pc' := 489) (by decide) ?_
        exact WP.retN at_489 (t := .boolean) rfl (by simp) (by decide) (by decide) own_q1
      exfalso; omega
    exfalso; omega
  exfalso; omega
theorem law_144_1 {l : Launch} {Z : State} {a0 : Array Value} (hw : HW Z a0) {n0 : Nat} {h : Heap} (a p q r : Int32) (b : Int64) (mode near small k : Int32) (g1 g2 g3 v0 v1 v2 v3 : Int64) (hv : v0.toInt < v1.toInt ∧ v1.toInt < v2.toInt ∧ v2.toInt < v3.toInt) (hr : -2147483648 ≤ v0.toInt ∧ v0.toInt ≤ 2147483647) : WP l B0 Z n0 (fun v h' => v = some (.int 1)) h 0 0 144 #[.val (.int a), .val (.int p), .val (.int q), .val (.int r), .val (.long b), .second, .val (.int mode), .val (.int (1 : Int32)), .val (.int near), .val (.int small), .val (.int k), .val (.long g1), .second, .val (.long g2), .second, .val (.long g3), .second, .val (.long v0), .second, .val (.long v1), .second, .val (.long v2), .second, .val (.long v3), .second, .unset, .unset, .unset, .unset, .unset, .unset, .unset, .unset, .unset, .unset] [] := by
  have k32_0 : (0 : Int32).toInt = 0 := by decide
  have k32_1 : (1 : Int32).toInt = 1 := by decide
  have k32_2 : (2 : Int32).toInt = 2 := by decide
  have k64_3 : (3 : Int64).toInt = 3 := by decide
  have k64_2147483647 : (2147483647 : Int64).toInt = 2147483647 := by decide
  refine WP.iload at_144 rfl (pc' := 146) rfl ?_
  refine WP.iconst at_146 (z := (1 : Int32)) rfl (pc' := 147) rfl ?_
  refine WP.icmpGt at_147 (tgt := 155) (by decide) (pc' := 150) rfl (fun c147 => ?_) (fun c147 => ?_)
  · exfalso; omega
  refine WP.lload at_150 rfl (pc' := 152) rfl ?_
  refine WP.goto at_152 (pc' := 179) (by decide) ?_
  refine WP.lstore at_179 (pc' := 181) rfl (ls' := #[.val (.int a), .val (.int p), .val (.int q), .val (.int r), .val (.long b), .second, .val (.int mode), .val (.int (1 : Int32)), .val (.int near), .val (.int small), .val (.int k), .val (.long g1), .second, .val (.long g2), .second, .val (.long g3), .second, .val (.long v0), .second, .val (.long v1), .second, .val (.long v2), .second, .val (.long v3), .second, .val (.long v0), .second, .unset, .unset, .unset, .unset, .unset, .unset, .unset, .unset]) rfl ?_
  refine WP.lload at_181 rfl (pc' := 183) rfl ?_
  refine WP.ldc2J at_183 (w1 hw) (pc' := 186) rfl ?_
  refine WP.lcmpLe at_186 rfl at_187 (tgt := 192) (by decide) (pc' := 190) rfl (fun c186 => ?_) (fun c186 => ?_)
  ·
    have hy0 : v0.toInt32.toInt = v0.toInt := by have q1 := c_l2i v0; have q2 := own_r32 v0.toInt32; omega
    refine WP.iload at_192 rfl (pc' := 194) rfl ?_
    refine WP.ifNe at_194 (tgt := 205) (by decide) (pc' := 197) rfl (fun c194 => ?_) (fun c194 => ?_)
    ·
      refine WP.iload at_205 rfl (pc' := 207) rfl ?_
      refine WP.iconst at_207 (z := (1 : Int32)) rfl (pc' := 208) rfl ?_
      refine WP.icmpNe at_208 (tgt := 225) (by decide) (pc' := 211) rfl (fun c208 => ?_) (fun c208 => ?_)
      · exfalso; omega
      refine WP.iconst at_211 (z := (1 : Int32)) rfl (pc' := 212) rfl ?_
      refine WP.newarrE at_212 (w2 hw) (k := 1) rfl 1 (by decide) (by decide) (by decide) (by decide) (ad := "[I") (by decide) (pc' := 214) rfl ?_
      intro b1 h1 eb_b1 g_b1 K2 A_b1 E_b1
      replace A_b1 : Av Z h1 b1 .int [.int 0] := A_b1
      refine WP.dup at_214 rfl (pc' := 215) rfl ?_
      refine WP.iconst at_215 (z := (0 : Int32)) rfl (pc' := 216) rfl ?_
      refine WP.lload at_216 rfl (pc' := 218) rfl ?_
      refine WP.l2i at_218 (pc' := 219) rfl ?_
      refine WP.iastore 0 at_219 A_b1 rfl (Nat.le_of_ble_eq_true rfl) g_b1 (pc' := 220) rfl ?_
      intro h3 K4 A_n
      replace E_b1 := E_b1.keep K4
      replace A_b1 : Av Z h3 b1 .int [(.int v0.toInt32)] := A_n
      clear A_n
      refine WP.astore at_220 (pc' := 222) rfl rfl (ls' := #[.val (.int a), .val (.int p), .val (.int q), .val (.int r), .val (.long b), .second, .val (.int mode), .val (.int (1 : Int32)), .val (.int near), .val (.int small), .val (.int k), .val (.long g1), .second, .val (.long g2), .second, .val (.long g3), .second, .val (.long v0), .second, .val (.long v1), .second, .val (.long v2), .second, .val (.long v3), .second, .val (.long v0), .second, .val (.ref b1), .unset, .unset, .unset, .unset, .unset, .unset, .unset]) rfl ?_
      refine WP.goto at_222 (pc' := 312) (by decide) ?_
      refine WP.iload at_312 rfl (pc' := 314) rfl ?_
      refine WP.ifNe at_314 (tgt := 321) (by decide) (pc' := 317) rfl (fun c314 => ?_) (fun c314 => ?_)
      ·
        refine WP.iload at_321 rfl (pc' := 323) rfl ?_
        refine WP.iload at_323 rfl (pc' := 325) rfl ?_
        refine WP.irem at_325 (by decide) (pc' := 326) rfl ?_
        obtain ⟨kk, e_kk⟩ : ∃ z, z = (k % (1 : Int32)) := ⟨_, rfl⟩
        rw [← e_kk]
        refine WP.istore at_326 (pc' := 328) rfl (ls' := #[.val (.int a), .val (.int p), .val (.int q), .val (.int r), .val (.long b), .second, .val (.int mode), .val (.int (1 : Int32)), .val (.int near), .val (.int small), .val (.int k), .val (.long g1), .second, .val (.long g2), .second, .val (.long g3), .second, .val (.long v0), .second, .val (.long v1), .second, .val (.long v2), .second, .val (.long v3), .second, .val (.long v0), .second, .val (.ref b1), .val (.int kk), .unset, .unset, .unset, .unset, .unset, .unset]) rfl ?_
        refine WP.iload at_328 rfl (pc' := 330) rfl ?_
        refine WP.ifNe at_330 (tgt := 338) (by decide) (pc' := 333) rfl (fun c330 => ?_) (fun c330 => ?_)
        ·
          refine WP.iload at_338 rfl (pc' := 340) rfl ?_
          refine WP.iconst at_340 (z := (1 : Int32)) rfl (pc' := 341) rfl ?_
          refine WP.icmpNe at_341 (tgt := 349) (by decide) (pc' := 344) rfl (fun c341 => ?_) (fun c341 => ?_)
          ·
            refine WP.iload at_349 rfl (pc' := 351) rfl ?_
            refine WP.iconst at_351 (z := (2 : Int32)) rfl (pc' := 352) rfl ?_
            refine WP.icmpNe at_352 (tgt := 360) (by decide) (pc' := 355) rfl (fun c352 => ?_) (fun c352 => ?_)
            ·
              refine WP.lload at_360 rfl (pc' := 362) rfl ?_
              refine WP.lstore at_362 (pc' := 364) rfl (ls' := #[.val (.int a), .val (.int p), .val (.int q), .val (.int r), .val (.long b), .second, .val (.int mode), .val (.int (1 : Int32)), .val (.int near), .val (.int small), .val (.int k), .val (.long g1), .second, .val (.long g2), .second, .val (.long g3), .second, .val (.long v0), .second, .val (.long v1), .second, .val (.long v2), .second, .val (.long v3), .second, .val (.long v0), .second, .val (.ref b1), .val (.int kk), .val (.long v3), .second, .unset, .unset, .unset, .unset]) rfl ?_
              refine WP.iload at_364 rfl (pc' := 366) rfl ?_
              refine WP.ifEq at_366 (tgt := 381) (by decide) (pc' := 369) rfl (fun c366 => ?_) (fun c366 => ?_)
              ·
                refine WP.lload at_381 rfl (pc' := 383) rfl ?_
                refine WP.lstore at_383 (pc' := 385) rfl (ls' := #[.val (.int a), .val (.int p), .val (.int q), .val (.int r), .val (.long b), .second, .val (.int mode), .val (.int (1 : Int32)), .val (.int near), .val (.int small), .val (.int k), .val (.long g1), .second, .val (.long g2), .second, .val (.long g3), .second, .val (.long v0), .second, .val (.long v1), .second, .val (.long v2), .second, .val (.long v3), .second, .val (.long v0), .second, .val (.ref b1), .val (.int kk), .val (.long v3), .second, .val (.long b), .second, .unset, .unset]) rfl ?_
                exact law_385_1 hw a p q r b mode near small k g1 g2 g3 v0 v1 v2 v3 _ _ _ b1 v0.toInt32 A_b1 E_b1 hv hy0
              refine WP.lload at_369 rfl (pc' := 371) rfl ?_
              refine WP.lload at_371 rfl (pc' := 373) rfl ?_
              refine WP.ldc2J at_373 (w52 hw) (pc' := 376) rfl ?_
              refine WP.lrem at_376 (by decide) (pc' := 377) rfl ?_
              refine WP.ladd at_377 (pc' := 378) rfl ?_
              refine WP.goto at_378 (pc' := 383) (by decide) ?_
              obtain ⟨bd, e_bd⟩ : ∃ z, z = (v3 + (b - b / (3 : Int64) * (3 : Int64))) := ⟨_, rfl⟩
              rw [← e_bd]
              refine WP.lstore at_383 (pc' := 385) rfl (ls' := #[.val (.int a), .val (.int p), .val (.int q), .val (.int r), .val (.long b), .second, .val (.int mode), .val (.int (1 : Int32)), .val (.int near), .val (.int small), .val (.int k), .val (.long g1), .second, .val (.long g2), .second, .val (.long g3), .second, .val (.long v0), .second, .val (.long v1), .second, .val (.long v2), .second, .val (.long v3), .second, .val (.long v0), .second, .val (.ref b1), .val (.int kk), .val (.long v3), .second, .val (.long bd), .second, .unset, .unset]) rfl ?_
              exact law_385_1 hw a p q r b mode near small k g1 g2 g3 v0 v1 v2 v3 _ _ _ b1 v0.toInt32 A_b1 E_b1 hv hy0
            refine WP.lload at_355 rfl (pc' := 357) rfl ?_
            refine WP.goto at_357 (pc' := 362) (by decide) ?_
            refine WP.lstore at_362 (pc' := 364) rfl (ls' := #[.val (.int a), .val (.int p), .val (.int q), .val (.int r), .val (.long b), .second, .val (.int mode), .val (.int (1 : Int32)), .val (.int near), .val (.int small), .val (.int k), .val (.long g1), .second, .val (.long g2), .second, .val (.long g3), .second, .val (.long v0), .second, .val (.long v1), .second, .val (.long v2), .second, .val (.long v3), .second, .val (.long v0), .second, .val (.ref b1), .val (.int kk), .val (.long v2), .second, .unset, .unset, .unset, .unset]) rfl ?_
            refine WP.iload at_364 rfl (pc' := 366) rfl ?_
            refine WP.ifEq at_366 (tgt := 381) (by decide) (pc' := 369) rfl (fun c366 => ?_) (fun c366 => ?_)
            ·
              refine WP.lload at_381 rfl (pc' := 383) rfl ?_
              refine WP.lstore at_383 (pc' := 385) rfl (ls' := #[.val (.int a), .val (.int p), .val (.int q), .val (.int r), .val (.long b), .second, .val (.int mode), .val (.int (1 : Int32)), .val (.int near), .val (.int small), .val (.int k), .val (.long g1), .second, .val (.long g2), .second, .val (.long g3), .second, .val (.long v0), .second, .val (.long v1), .second, .val (.long v2), .second, .val (.long v3), .second, .val (.long v0), .second, .val (.ref b1), .val (.int kk), .val (.long v2), .second, .val (.long b), .second, .unset, .unset]) rfl ?_
              exact law_385_1 hw a p q r b mode near small k g1 g2 g3 v0 v1 v2 v3 _ _ _ b1 v0.toInt32 A_b1 E_b1 hv hy0
            refine WP.lload at_369 rfl (pc' := 371) rfl ?_
            refine WP.lload at_371 rfl (pc' := 373) rfl ?_
            refine WP.ldc2J at_373 (w52 hw) (pc' := 376) rfl ?_
            refine WP.lrem at_376 (by decide) (pc' := 377) rfl ?_
            refine WP.ladd at_377 (pc' := 378) rfl ?_
            refine WP.goto at_378 (pc' := 383) (by decide) ?_
            obtain ⟨bd, e_bd⟩ : ∃ z, z = (v2 + (b - b / (3 : Int64) * (3 : Int64))) := ⟨_, rfl⟩
            rw [← e_bd]
            refine WP.lstore at_383 (pc' := 385) rfl (ls' := #[.val (.int a), .val (.int p), .val (.int q), .val (.int r), .val (.long b), .second, .val (.int mode), .val (.int (1 : Int32)), .val (.int near), .val (.int small), .val (.int k), .val (.long g1), .second, .val (.long g2), .second, .val (.long g3), .second, .val (.long v0), .second, .val (.long v1), .second, .val (.long v2), .second, .val (.long v3), .second, .val (.long v0), .second, .val (.ref b1), .val (.int kk), .val (.long v2), .second, .val (.long bd), .second, .unset, .unset]) rfl ?_
            exact law_385_1 hw a p q r b mode near small k g1 g2 g3 v0 v1 v2 v3 _ _ _ b1 v0.toInt32 A_b1 E_b1 hv hy0
          refine WP.lload at_344 rfl (pc' := 346) rfl ?_
          refine WP.goto at_346 (pc' := 362) (by decide) ?_
          refine WP.lstore at_362 (pc' := 364) rfl (ls' := #[.val (.int a), .val (.int p), .val (.int q), .val (.int r), .val (.long b), .second, .val (.int mode), .val (.int (1 : Int32)), .val (.int near), .val (.int small), .val (.int k), .val (.long g1), .second, .val (.long g2), .second, .val (.long g3), .second, .val (.long v0), .second, .val (.long v1), .second, .val (.long v2), .second, .val (.long v3), .second, .val (.long v0), .second, .val (.ref b1), .val (.int kk), .val (.long v1), .second, .unset, .unset, .unset, .unset]) rfl ?_
          refine WP.iload at_364 rfl (pc' := 366) rfl ?_
          refine WP.ifEq at_366 (tgt := 381) (by decide) (pc' := 369) rfl (fun c366 => ?_) (fun c366 => ?_)
          ·
            refine WP.lload at_381 rfl (pc' := 383) rfl ?_
            refine WP.lstore at_383 (pc' := 385) rfl (ls' := #[.val (.int a), .val (.int p), .val (.int q), .val (.int r), .val (.long b), .second, .val (.int mode), .val (.int (1 : Int32)), .val (.int near), .val (.int small), .val (.int k), .val (.long g1), .second, .val (.long g2), .second, .val (.long g3), .second, .val (.long v0), .second, .val (.long v1), .second, .val (.long v2), .second, .val (.long v3), .second, .val (.long v0), .second, .val (.ref b1), .val (.int kk), .val (.long v1), .second, .val (.long b), .second, .unset, .unset]) rfl ?_
            exact law_385_1 hw a p q r b mode near small k g1 g2 g3 v0 v1 v2 v3 _ _ _ b1 v0.toInt32 A_b1 E_b1 hv hy0
          refine WP.lload at_369 rfl (pc' := 371) rfl ?_
          refine WP.lload at_371 rfl (pc' := 373) rfl ?_
          refine WP.ldc2J at_373 (w52 hw) (pc' := 376) rfl ?_
          refine WP.lrem at_376 (by decide) (pc' := 377) rfl ?_
          refine WP.ladd at_377 (pc' := 378) rfl ?_
          refine WP.goto at_378 (pc' := 383) (by decide) ?_
          obtain ⟨bd, e_bd⟩ : ∃ z, z = (v1 + (b - b / (3 : Int64) * (3 : Int64))) := ⟨_, rfl⟩
          rw [← e_bd]
          refine WP.lstore at_383 (pc' := 385) rfl (ls' := #[.val (.int a), .val (.int p), .val (.int q), .val (.int r), .val (.long b), .second, .val (.int mode), .val (.int (1 : Int32)), .val (.int near), .val (.int small), .val (.int k), .val (.long g1), .second, .val (.long g2), .second, .val (.long g3), .second, .val (.long v0), .second, .val (.long v1), .second, .val (.long v2), .second, .val (.long v3), .second, .val (.long v0), .second, .val (.ref b1), .val (.int kk), .val (.long v1), .second, .val (.long bd), .second, .unset, .unset]) rfl ?_
          exact law_385_1 hw a p q r b mode near small k g1 g2 g3 v0 v1 v2 v3 _ _ _ b1 v0.toInt32 A_b1 E_b1 hv hy0
        refine WP.lload at_333 rfl (pc' := 335) rfl ?_
        refine WP.goto at_335 (pc' := 362) (by decide) ?_
        refine WP.lstore at_362 (pc' := 364) rfl (ls' := #[.val (.int a), .val (.int p), .val (.int q), .val (.int r), .val (.long b), .second, .val (.int mode), .val (.int (1 : Int32)), .val (.int near), .val (.int small), .val (.int k), .val (.long g1), .second, .val (.long g2), .second, .val (.long g3), .second, .val (.long v0), .second, .val (.long v1), .second, .val (.long v2), .second, .val (.long v3), .second, .val (.long v0), .second, .val (.ref b1), .val (.int kk), .val (.long v0), .second, .unset, .unset, .unset, .unset]) rfl ?_
        refine WP.iload at_364 rfl (pc' := 366) rfl ?_
        refine WP.ifEq at_366 (tgt := 381) (by decide) (pc' := 369) rfl (fun c366 => ?_) (fun c366 => ?_)
        ·
          refine WP.lload at_381 rfl (pc' := 383) rfl ?_
          refine WP.lstore at_383 (pc' := 385) rfl (ls' := #[.val (.int a), .val (.int p), .val (.int q), .val (.int r), .val (.long b), .second, .val (.int mode), .val (.int (1 : Int32)), .val (.int near), .val (.int small), .val (.int k), .val (.long g1), .second, .val (.long g2), .second, .val (.long g3), .second, .val (.long v0), .second, .val (.long v1), .second, .val (.long v2), .second, .val (.long v3), .second, .val (.long v0), .second, .val (.ref b1), .val (.int kk), .val (.long v0), .second, .val (.long b), .second, .unset, .unset]) rfl ?_
          exact law_385_1 hw a p q r b mode near small k g1 g2 g3 v0 v1 v2 v3 _ _ _ b1 v0.toInt32 A_b1 E_b1 hv hy0
        refine WP.lload at_369 rfl (pc' := 371) rfl ?_
        refine WP.lload at_371 rfl (pc' := 373) rfl ?_
        refine WP.ldc2J at_373 (w52 hw) (pc' := 376) rfl ?_
        refine WP.lrem at_376 (by decide) (pc' := 377) rfl ?_
        refine WP.ladd at_377 (pc' := 378) rfl ?_
        refine WP.goto at_378 (pc' := 383) (by decide) ?_
        obtain ⟨bd, e_bd⟩ : ∃ z, z = (v0 + (b - b / (3 : Int64) * (3 : Int64))) := ⟨_, rfl⟩
        rw [← e_bd]
        refine WP.lstore at_383 (pc' := 385) rfl (ls' := #[.val (.int a), .val (.int p), .val (.int q), .val (.int r), .val (.long b), .second, .val (.int mode), .val (.int (1 : Int32)), .val (.int near), .val (.int small), .val (.int k), .val (.long g1), .second, .val (.long g2), .second, .val (.long g3), .second, .val (.long v0), .second, .val (.long v1), .second, .val (.long v2), .second, .val (.long v3), .second, .val (.long v0), .second, .val (.ref b1), .val (.int kk), .val (.long v0), .second, .val (.long bd), .second, .unset, .unset]) rfl ?_
        exact law_385_1 hw a p q r b mode near small k g1 g2 g3 v0 v1 v2 v3 _ _ _ b1 v0.toInt32 A_b1 E_b1 hv hy0
      exfalso; omega
    exfalso; omega
  refine WP.iconst at_190 (z := (1 : Int32)) rfl (pc' := 191) rfl ?_
  exact WP.retN at_191 (t := .boolean) rfl (by simp) (by decide) (by decide) own_q1
theorem law_385_2 {l : Launch} {Z : State} {a0 : Array Value} (hw : HW Z a0) {n0 : Nat} {h : Heap} (a p q r : Int32) (b : Int64) (mode near small k : Int32) (g1 g2 g3 v0 v1 v2 v3 : Int64) (kk : Int32) (vk bd : Int64) (b1 : Addr) (y0 y1 : Int32) (A_b1 : Av Z h b1 .int [(.int y0), (.int y1)]) (E_b1 : Exa Z h b1 "[I") (hv : v0.toInt < v1.toInt ∧ v1.toInt < v2.toInt ∧ v2.toInt < v3.toInt) (hy0 : y0.toInt = v0.toInt) (hy1 : y1.toInt = v1.toInt) : WP l B0 Z n0 (fun v h' => v = some (.int 1)) h 1 2 385 #[.val (.int a), .val (.int p), .val (.int q), .val (.int r), .val (.long b), .second, .val (.int mode), .val (.int (2 : Int32)), .val (.int near), .val (.int small), .val (.int k), .val (.long g1), .second, .val (.long g2), .second, .val (.long g3), .second, .val (.long v0), .second, .val (.long v1), .second, .val (.long v2), .second, .val (.long v3), .second, .val (.long v1), .second, .val (.ref b1), .val (.int kk), .val (.long vk), .second, .val (.long bd), .second, .unset, .unset] [] := by
  have k32_0 : (0 : Int32).toInt = 0 := by decide
  have k32_1 : (1 : Int32).toInt = 1 := by decide
  have k32_2 : (2 : Int32).toInt = 2 := by decide
  have k32_3 : (3 : Int32).toInt = 3 := by decide
  refine WP.iload at_385 rfl (pc' := 387) rfl ?_
  refine WP.ifLe at_387 (tgt := 394) (by decide) (pc' := 390) rfl (fun c387 => ?_) (fun c387 => ?_)
  · exfalso; omega
  refine WP.iconst at_390 (z := (1 : Int32)) rfl (pc' := 391) rfl ?_
  refine WP.goto at_391 (pc' := 395) (by decide) ?_
  refine WP.lload at_395 rfl (pc' := 397) rfl ?_
  refine WP.lload at_397 rfl (pc' := 399) rfl ?_
  refine WP.callS (y := (⟨"com/example/singlet/singlet/network/DomainFirstAtLeastPinLaw", "below", "(ZJJ)I"⟩ : MethodName)) (By := B1) (as := [(.int (1 : Int32)), (.long v0), (.long bd)]) (rest := []) at_399 (w3 hw) (w4 hw) (w5 hw) (w6 hw) (by decide) (bel_met hw (1 : Int32) v0 bd) pd_1 rfl rfl rfl (by decide) (Nat.le_of_ble_eq_true rfl) (by decide) (by decide) (pc' := 402) rfl ?_
  rintro _ _ ⟨rfl, c0, rfl, hc0⟩
  show WP _ _ _ _ _ _ _ _ _ _ [(.int c0)]
  refine WP.iload at_402 rfl (pc' := 404) rfl ?_
  refine WP.iconst at_404 (z := (1 : Int32)) rfl (pc' := 405) rfl ?_
  refine WP.icmpLe at_405 (tgt := 412) (by decide) (pc' := 408) rfl (fun c405 => ?_) (fun c405 => ?_)
  · exfalso; omega
  refine WP.iconst at_408 (z := (1 : Int32)) rfl (pc' := 409) rfl ?_
  refine WP.goto at_409 (pc' := 413) (by decide) ?_
  refine WP.lload at_413 rfl (pc' := 415) rfl ?_
  refine WP.lload at_415 rfl (pc' := 417) rfl ?_
  refine WP.callS (y := (⟨"com/example/singlet/singlet/network/DomainFirstAtLeastPinLaw", "below", "(ZJJ)I"⟩ : MethodName)) (By := B1) (as := [(.int (1 : Int32)), (.long v1), (.long bd)]) (rest := [(.int c0)]) at_417 (w3 hw) (w4 hw) (w5 hw) (w6 hw) (by decide) (bel_met hw (1 : Int32) v1 bd) pd_1 rfl rfl rfl (by decide) (Nat.le_of_ble_eq_true rfl) (by decide) (by decide) (pc' := 420) rfl ?_
  rintro _ _ ⟨rfl, c1, rfl, hc1⟩
  show WP _ _ _ _ _ _ _ _ _ _ [(.int c1), (.int c0)]
  refine WP.iadd at_420 (pc' := 421) rfl ?_
  refine WP.iload at_421 rfl (pc' := 423) rfl ?_
  refine WP.iconst at_423 (z := (2 : Int32)) rfl (pc' := 424) rfl ?_
  refine WP.icmpLe at_424 (tgt := 431) (by decide) (pc' := 427) rfl (fun c424 => ?_) (fun c424 => ?_)
  ·
    refine WP.iconst at_431 (z := (0 : Int32)) rfl (pc' := 432) rfl ?_
    refine WP.lload at_432 rfl (pc' := 434) rfl ?_
    refine WP.lload at_434 rfl (pc' := 436) rfl ?_
    refine WP.callS (y := (⟨"com/example/singlet/singlet/network/DomainFirstAtLeastPinLaw", "below", "(ZJJ)I"⟩ : MethodName)) (By := B1) (as := [(.int (0 : Int32)), (.long v2), (.long bd)]) (rest := [(.int (c0 + c1))]) at_436 (w3 hw) (w4 hw) (w5 hw) (w6 hw) (by decide) (bel_met hw (0 : Int32) v2 bd) pd_1 rfl rfl rfl (by decide) (Nat.le_of_ble_eq_true rfl) (by decide) (by decide) (pc' := 439) rfl ?_
    rintro _ _ ⟨rfl, c2, rfl, hc2⟩
    show WP _ _ _ _ _ _ _ _ _ _ [(.int c2), (.int (c0 + c1))]
    refine WP.iadd at_439 (pc' := 440) rfl ?_
    refine WP.iload at_440 rfl (pc' := 442) rfl ?_
    refine WP.iconst at_442 (z := (3 : Int32)) rfl (pc' := 443) rfl ?_
    refine WP.icmpLe at_443 (tgt := 450) (by decide) (pc' := 446) rfl (fun c443 => ?_) (fun c443 => ?_)
    ·
      refine WP.iconst at_450 (z := (0 : Int32)) rfl (pc' := 451) rfl ?_
      refine WP.lload at_451 rfl (pc' := 453) rfl ?_
      refine WP.lload at_453 rfl (pc' := 455) rfl ?_
      refine WP.callS (y := (⟨"com/example/singlet/singlet/network/DomainFirstAtLeastPinLaw", "below", "(ZJJ)I"⟩ : MethodName)) (By := B1) (as := [(.int (0 : Int32)), (.long v3), (.long bd)]) (rest := [(.int ((c0 + c1) + c2))]) at_455 (w3 hw) (w4 hw) (w5 hw) (w6 hw) (by decide) (bel_met hw (0 : Int32) v3 bd) pd_1 rfl rfl rfl (by decide) (Nat.le_of_ble_eq_true rfl) (by decide) (by decide) (pc' := 458) rfl ?_
      rintro _ _ ⟨rfl, c3, rfl, hc3⟩
      show WP _ _ _ _ _ _ _ _ _ _ [(.int c3), (.int ((c0 + c1) + c2))]
      refine WP.iadd at_458 (pc' := 459) rfl ?_
      obtain ⟨ex, e_ex⟩ : ∃ z, z = (((c0 + c1) + c2) + c3) := ⟨_, rfl⟩
      rw [← e_ex]
      refine WP.istore at_459 (pc' := 461) rfl (ls' := #[.val (.int a), .val (.int p), .val (.int q), .val (.int r), .val (.long b), .second, .val (.int mode), .val (.int (2 : Int32)), .val (.int near), .val (.int small), .val (.int k), .val (.long g1), .second, .val (.long g2), .second, .val (.long g3), .second, .val (.long v0), .second, .val (.long v1), .second, .val (.long v2), .second, .val (.long v3), .second, .val (.long v1), .second, .val (.ref b1), .val (.int kk), .val (.long vk), .second, .val (.long bd), .second, .val (.int ex), .unset]) rfl ?_
      have f1 : (c0 + c1).toInt = c0.toInt + c1.toInt := by rw [own_iadd] <;> omega
      have f2 : (c0 + c1 + c2).toInt = c0.toInt + c1.toInt + c2.toInt := by rw [own_iadd] <;> omega
      have f3 : ex.toInt = c0.toInt + c1.toInt + c2.toInt + c3.toInt := by rw [e_ex, own_iadd] <;> omega
      clear f1 f2
      refine WP.newobj (lay := L_DM) (vs := [.null, .null, .null, .null, .null, (.int 0), (.int 0), .null, (.int 0)]) at_461 (w7 hw) (w8 hw) (w9 hw) (lay_DM hw) rfl (by decide) (by decide) (pc' := 464) rfl ?_
      intro d h5 eb_d g_d K6 O_d
      have lt_b1_d : b1 < d := by rw [eb_d]; exact A_b1.lt
      replace E_b1 := E_b1.keep K6
      replace A_b1 := A_b1.keep K6 own_nil
      refine WP.dup at_464 rfl (pc' := 465) rfl ?_
      refine WP.aload at_465 rfl rfl (pc' := 467) rfl ?_
      refine WP.callI (a := d) (y := (⟨"com/example/singlet/singlet/network/Domain", "<init>", "([I)V"⟩ : MethodName)) (By := B2) (as := [(.ref b1)]) (rest := [(.ref d)]) at_467 (w10 hw) (w11 hw) (w9 hw) (w12 hw) rfl rfl (by decide) (c1_2 hw d b1 y0 y1 g_d O_d A_b1 E_b1 (by omega) (by first | assumption | exact Ne.symm (by assumption) | exact Nat.ne_of_lt (by assumption) | exact Nat.ne_of_gt (by assumption))) pd_2 rfl rfl rfl (by decide) (Nat.le_of_ble_eq_true rfl) (by decide) (by decide) (pc' := 470) rfl ?_
      rintro _ h7 ⟨rfl, va, z1, z2, z3, z4, z5, z6, z7, z8, O_n, A_va⟩
      replace O_d := O_n
      show WP _ _ _ _ _ _ _ _ _ _ [(.ref d)]
      refine WP.astore at_470 (pc' := 472) rfl rfl (ls' := #[.val (.int a), .val (.int p), .val (.int q), .val (.int r), .val (.long b), .second, .val (.int mode), .val (.int (2 : Int32)), .val (.int near), .val (.int small), .val (.int k), .val (.long g1), .second, .val (.long g2), .second, .val (.long g3), .second, .val (.long v0), .second, .val (.long v1), .second, .val (.long v2), .second, .val (.long v3), .second, .val (.long v1), .second, .val (.ref b1), .val (.int kk), .val (.long vk), .second, .val (.long bd), .second, .val (.int ex), .val (.ref d)]) rfl ?_
      refine WP.aload at_472 rfl rfl (pc' := 474) rfl ?_
      refine WP.lload at_474 rfl (pc' := 476) rfl ?_
      refine WP.callV (a := d) (z := (⟨"com/example/singlet/singlet/network/Domain", "firstAtLeast", "(J)I"⟩ : MethodName)) (Cl := "com/example/singlet/singlet/network/Domain") (y := (⟨"com/example/singlet/singlet/network/Domain", "firstAtLeast", "(J)I"⟩ : MethodName)) (By := B5) (as := [(.long bd)]) (rest := []) at_476 (w47 hw) (w48 hw) (w50 hw) (w49 hw) (w9 hw) (w51 hw) rfl rfl (by decide) O_d.1 (fal_2 hw d va bd y0 y1 z1 z2 z3 z4 z5 z6 z7 z8 O_d A_va (by omega)) pd_3 rfl rfl rfl (by decide) (Nat.le_of_ble_eq_true rfl) (by decide) (by decide) (pc' := 479) rfl ?_
      rintro _ _ ⟨rfl, fr, rfl, hf1, hf2, hf10, hf11⟩
      show WP _ _ _ _ _ _ _ _ _ _ [(.int fr)]
      refine WP.iload at_479 rfl (pc' := 481) rfl ?_
      refine WP.icmpNe at_481 (tgt := 488) (by decide) (pc' := 484) rfl (fun c481 => ?_) (fun c481 => ?_)
      ·
        refine WP.iconst at_488 (z := (0 : Int32)) rfl (pc' := 489) rfl ?_
        exact WP.retN at_489 (t := .boolean) rfl (by simp) (by decide) (by decide) (by exfalso; omega)
      refine WP.iconst at_484 (z := (1 : Int32)) rfl (pc' := 485) rfl ?_
      refine WP.goto at_485 (pc' := 489) (by decide) ?_
      exact WP.retN at_489 (t := .boolean) rfl (by simp) (by decide) (by decide) own_q1
    exfalso; omega
  exfalso; omega
theorem law_144_2 {l : Launch} {Z : State} {a0 : Array Value} (hw : HW Z a0) {n0 : Nat} {h : Heap} (a p q r : Int32) (b : Int64) (mode near small k : Int32) (g1 g2 g3 v0 v1 v2 v3 : Int64) (hv : v0.toInt < v1.toInt ∧ v1.toInt < v2.toInt ∧ v2.toInt < v3.toInt) (hr : -2147483648 ≤ v0.toInt ∧ v0.toInt ≤ 2147483647) : WP l B0 Z n0 (fun v h' => v = some (.int 1)) h 0 0 144 #[.val (.int a), .val (.int p), .val (.int q), .val (.int r), .val (.long b), .second, .val (.int mode), .val (.int (2 : Int32)), .val (.int near), .val (.int small), .val (.int k), .val (.long g1), .second, .val (.long g2), .second, .val (.long g3), .second, .val (.long v0), .second, .val (.long v1), .second, .val (.long v2), .second, .val (.long v3), .second, .unset, .unset, .unset, .unset, .unset, .unset, .unset, .unset, .unset, .unset] [] := by
  have k32_0 : (0 : Int32).toInt = 0 := by decide
  have k32_1 : (1 : Int32).toInt = 1 := by decide
  have k32_2 : (2 : Int32).toInt = 2 := by decide
  have k64_3 : (3 : Int64).toInt = 3 := by decide
  have k64_2147483647 : (2147483647 : Int64).toInt = 2147483647 := by decide
  refine WP.iload at_144 rfl (pc' := 146) rfl ?_
  refine WP.iconst at_146 (z := (1 : Int32)) rfl (pc' := 147) rfl ?_
  refine WP.icmpGt at_147 (tgt := 155) (by decide) (pc' := 150) rfl (fun c147 => ?_) (fun c147 => ?_)
  ·
    refine WP.iload at_155 rfl (pc' := 157) rfl ?_
    refine WP.iconst at_157 (z := (2 : Int32)) rfl (pc' := 158) rfl ?_
    refine WP.icmpNe at_158 (tgt := 166) (by decide) (pc' := 161) rfl (fun c158 => ?_) (fun c158 => ?_)
    · exfalso; omega
    refine WP.lload at_161 rfl (pc' := 163) rfl ?_
    refine WP.goto at_163 (pc' := 179) (by decide) ?_
    refine WP.lstore at_179 (pc' := 181) rfl (ls' := #[.val (.int a), .val (.int p), .val (.int q), .val (.int r), .val (.long b), .second, .val (.int mode), .val (.int (2 : Int32)), .val (.int near), .val (.int small), .val (.int k), .val (.long g1), .second, .val (.long g2), .second, .val (.long g3), .second, .val (.long v0), .second, .val (.long v1), .second, .val (.long v2), .second, .val (.long v3), .second, .val (.long v1), .second, .unset, .unset, .unset, .unset, .unset, .unset, .unset, .unset]) rfl ?_
    refine WP.lload at_181 rfl (pc' := 183) rfl ?_
    refine WP.ldc2J at_183 (w1 hw) (pc' := 186) rfl ?_
    refine WP.lcmpLe at_186 rfl at_187 (tgt := 192) (by decide) (pc' := 190) rfl (fun c186 => ?_) (fun c186 => ?_)
    ·
      have hy0 : v0.toInt32.toInt = v0.toInt := by have q1 := c_l2i v0; have q2 := own_r32 v0.toInt32; omega
      have hy1 : v1.toInt32.toInt = v1.toInt := by have q1 := c_l2i v1; have q2 := own_r32 v1.toInt32; omega
      refine WP.iload at_192 rfl (pc' := 194) rfl ?_
      refine WP.ifNe at_194 (tgt := 205) (by decide) (pc' := 197) rfl (fun c194 => ?_) (fun c194 => ?_)
      ·
        refine WP.iload at_205 rfl (pc' := 207) rfl ?_
        refine WP.iconst at_207 (z := (1 : Int32)) rfl (pc' := 208) rfl ?_
        refine WP.icmpNe at_208 (tgt := 225) (by decide) (pc' := 211) rfl (fun c208 => ?_) (fun c208 => ?_)
        ·
          refine WP.iload at_225 rfl (pc' := 227) rfl ?_
          refine WP.iconst at_227 (z := (2 : Int32)) rfl (pc' := 228) rfl ?_
          refine WP.icmpNe at_228 (tgt := 251) (by decide) (pc' := 231) rfl (fun c228 => ?_) (fun c228 => ?_)
          · exfalso; omega
          refine WP.iconst at_231 (z := (2 : Int32)) rfl (pc' := 232) rfl ?_
          refine WP.newarrE at_232 (w2 hw) (k := 2) rfl 2 (by decide) (by decide) (by decide) (by decide) (ad := "[I") (by decide) (pc' := 234) rfl ?_
          intro b1 h1 eb_b1 g_b1 K2 A_b1 E_b1
          replace A_b1 : Av Z h1 b1 .int [.int 0, .int 0] := A_b1
          refine WP.dup at_234 rfl (pc' := 235) rfl ?_
          refine WP.iconst at_235 (z := (0 : Int32)) rfl (pc' := 236) rfl ?_
          refine WP.lload at_236 rfl (pc' := 238) rfl ?_
          refine WP.l2i at_238 (pc' := 239) rfl ?_
          refine WP.iastore 0 at_239 A_b1 rfl (Nat.le_of_ble_eq_true rfl) g_b1 (pc' := 240) rfl ?_
          intro h3 K4 A_n
          replace E_b1 := E_b1.keep K4
          replace A_b1 : Av Z h3 b1 .int [(.int v0.toInt32), (.int 0)] := A_n
          clear A_n
          refine WP.dup at_240 rfl (pc' := 241) rfl ?_
          refine WP.iconst at_241 (z := (1 : Int32)) rfl (pc' := 242) rfl ?_
          refine WP.lload at_242 rfl (pc' := 244) rfl ?_
          refine WP.l2i at_244 (pc' := 245) rfl ?_
          refine WP.iastore 1 at_245 A_b1 rfl (Nat.le_of_ble_eq_true rfl) g_b1 (pc' := 246) rfl ?_
          intro h5 K6 A_n
          replace E_b1 := E_b1.keep K6
          replace A_b1 : Av Z h5 b1 .int [(.int v0.toInt32), (.int v1.toInt32)] := A_n
          clear A_n
          refine WP.astore at_246 (pc' := 248) rfl rfl (ls' := #[.val (.int a), .val (.int p), .val (.int q), .val (.int r), .val (.long b), .second, .val (.int mode), .val (.int (2 : Int32)), .val (.int near), .val (.int small), .val (.int k), .val (.long g1), .second, .val (.long g2), .second, .val (.long g3), .second, .val (.long v0), .second, .val (.long v1), .second, .val (.long v2), .second, .val (.long v3), .second, .val (.long v1), .second, .val (.ref b1), .unset, .unset, .unset, .unset, .unset, .unset, .unset]) rfl ?_
          refine WP.goto at_248 (pc' := 312) (by decide) ?_
          refine WP.iload at_312 rfl (pc' := 314) rfl ?_
          refine WP.ifNe at_314 (tgt := 321) (by decide) (pc' := 317) rfl (fun c314 => ?_) (fun c314 => ?_)
          ·
            refine WP.iload at_321 rfl (pc' := 323) rfl ?_
            refine WP.iload at_323 rfl (pc' := 325) rfl ?_
            refine WP.irem at_325 (by decide) (pc' := 326) rfl ?_
            obtain ⟨kk, e_kk⟩ : ∃ z, z = (k % (2 : Int32)) := ⟨_, rfl⟩
            rw [← e_kk]
            refine WP.istore at_326 (pc' := 328) rfl (ls' := #[.val (.int a), .val (.int p), .val (.int q), .val (.int r), .val (.long b), .second, .val (.int mode), .val (.int (2 : Int32)), .val (.int near), .val (.int small), .val (.int k), .val (.long g1), .second, .val (.long g2), .second, .val (.long g3), .second, .val (.long v0), .second, .val (.long v1), .second, .val (.long v2), .second, .val (.long v3), .second, .val (.long v1), .second, .val (.ref b1), .val (.int kk), .unset, .unset, .unset, .unset, .unset, .unset]) rfl ?_
            refine WP.iload at_328 rfl (pc' := 330) rfl ?_
            refine WP.ifNe at_330 (tgt := 338) (by decide) (pc' := 333) rfl (fun c330 => ?_) (fun c330 => ?_)
            ·
              refine WP.iload at_338 rfl (pc' := 340) rfl ?_
              refine WP.iconst at_340 (z := (1 : Int32)) rfl (pc' := 341) rfl ?_
              refine WP.icmpNe at_341 (tgt := 349) (by decide) (pc' := 344) rfl (fun c341 => ?_) (fun c341 => ?_)
              ·
                refine WP.iload at_349 rfl (pc' := 351) rfl ?_
                refine WP.iconst at_351 (z := (2 : Int32)) rfl (pc' := 352) rfl ?_
                refine WP.icmpNe at_352 (tgt := 360) (by decide) (pc' := 355) rfl (fun c352 => ?_) (fun c352 => ?_)
                ·
                  refine WP.lload at_360 rfl (pc' := 362) rfl ?_
                  refine WP.lstore at_362 (pc' := 364) rfl (ls' := #[.val (.int a), .val (.int p), .val (.int q), .val (.int r), .val (.long b), .second, .val (.int mode), .val (.int (2 : Int32)), .val (.int near), .val (.int small), .val (.int k), .val (.long g1), .second, .val (.long g2), .second, .val (.long g3), .second, .val (.long v0), .second, .val (.long v1), .second, .val (.long v2), .second, .val (.long v3), .second, .val (.long v1), .second, .val (.ref b1), .val (.int kk), .val (.long v3), .second, .unset, .unset, .unset, .unset]) rfl ?_
                  refine WP.iload at_364 rfl (pc' := 366) rfl ?_
                  refine WP.ifEq at_366 (tgt := 381) (by decide) (pc' := 369) rfl (fun c366 => ?_) (fun c366 => ?_)
                  ·
                    refine WP.lload at_381 rfl (pc' := 383) rfl ?_
                    refine WP.lstore at_383 (pc' := 385) rfl (ls' := #[.val (.int a), .val (.int p), .val (.int q), .val (.int r), .val (.long b), .second, .val (.int mode), .val (.int (2 : Int32)), .val (.int near), .val (.int small), .val (.int k), .val (.long g1), .second, .val (.long g2), .second, .val (.long g3), .second, .val (.long v0), .second, .val (.long v1), .second, .val (.long v2), .second, .val (.long v3), .second, .val (.long v1), .second, .val (.ref b1), .val (.int kk), .val (.long v3), .second, .val (.long b), .second, .unset, .unset]) rfl ?_
                    exact law_385_2 hw a p q r b mode near small k g1 g2 g3 v0 v1 v2 v3 _ _ _ b1 v0.toInt32 v1.toInt32 A_b1 E_b1 hv hy0 hy1
                  refine WP.lload at_369 rfl (pc' := 371) rfl ?_
                  refine WP.lload at_371 rfl (pc' := 373) rfl ?_
                  refine WP.ldc2J at_373 (w52 hw) (pc' := 376) rfl ?_
                  refine WP.lrem at_376 (by decide) (pc' := 377) rfl ?_
                  refine WP.ladd at_377 (pc' := 378) rfl ?_
                  refine WP.goto at_378 (pc' := 383) (by decide) ?_
                  obtain ⟨bd, e_bd⟩ : ∃ z, z = (v3 + (b - b / (3 : Int64) * (3 : Int64))) := ⟨_, rfl⟩
                  rw [← e_bd]
                  refine WP.lstore at_383 (pc' := 385) rfl (ls' := #[.val (.int a), .val (.int p), .val (.int q), .val (.int r), .val (.long b), .second, .val (.int mode), .val (.int (2 : Int32)), .val (.int near), .val (.int small), .val (.int k), .val (.long g1), .second, .val (.long g2), .second, .val (.long g3), .second, .val (.long v0), .second, .val (.long v1), .second, .val (.long v2), .second, .val (.long v3), .second, .val (.long v1), .second, .val (.ref b1), .val (.int kk), .val (.long v3), .second, .val (.long bd), .second, .unset, .unset]) rfl ?_
                  exact law_385_2 hw a p q r b mode near small k g1 g2 g3 v0 v1 v2 v3 _ _ _ b1 v0.toInt32 v1.toInt32 A_b1 E_b1 hv hy0 hy1
                refine WP.lload at_355 rfl (pc' := 357) rfl ?_
                refine WP.goto at_357 (pc' := 362) (by decide) ?_
                refine WP.lstore at_362 (pc' := 364) rfl (ls' := #[.val (.int a), .val (.int p), .val (.int q), .val (.int r), .val (.long b), .second, .val (.int mode), .val (.int (2 : Int32)), .val (.int near), .val (.int small), .val (.int k), .val (.long g1), .second, .val (.long g2), .second, .val (.long g3), .second, .val (.long v0), .second, .val (.long v1), .second, .val (.long v2), .second, .val (.long v3), .second, .val (.long v1), .second, .val (.ref b1), .val (.int kk), .val (.long v2), .second, .unset, .unset, .unset, .unset]) rfl ?_
                refine WP.iload at_364 rfl (pc' := 366) rfl ?_
                refine WP.ifEq at_366 (tgt := 381) (by decide) (pc' := 369) rfl (fun c366 => ?_) (fun c366 => ?_)
                ·
                  refine WP.lload at_381 rfl (pc' := 383) rfl ?_
                  refine WP.lstore at_383 (pc' := 385) rfl (ls' := #[.val (.int a), .val (.int p), .val (.int q), .val (.int r), .val (.long b), .second, .val (.int mode), .val (.int (2 : Int32)), .val (.int near), .val (.int small), .val (.int k), .val (.long g1), .second, .val (.long g2), .second, .val (.long g3), .second, .val (.long v0), .second, .val (.long v1), .second, .val (.long v2), .second, .val (.long v3), .second, .val (.long v1), .second, .val (.ref b1), .val (.int kk), .val (.long v2), .second, .val (.long b), .second, .unset, .unset]) rfl ?_
                  exact law_385_2 hw a p q r b mode near small k g1 g2 g3 v0 v1 v2 v3 _ _ _ b1 v0.toInt32 v1.toInt32 A_b1 E_b1 hv hy0 hy1
                refine WP.lload at_369 rfl (pc' := 371) rfl ?_
                refine WP.lload at_371 rfl (pc' := 373) rfl ?_
                refine WP.ldc2J at_373 (w52 hw) (pc' := 376) rfl ?_
                refine WP.lrem at_376 (by decide) (pc' := 377) rfl ?_
                refine WP.ladd at_377 (pc' := 378) rfl ?_
                refine WP.goto at_378 (pc' := 383) (by decide) ?_
                obtain ⟨bd, e_bd⟩ : ∃ z, z = (v2 + (b - b / (3 : Int64) * (3 : Int64))) := ⟨_, rfl⟩
                rw [← e_bd]
                refine WP.lstore at_383 (pc' := 385) rfl (ls' := #[.val (.int a), .val (.int p), .val (.int q), .val (.int r), .val (.long b), .second, .val (.int mode), .val (.int (2 : Int32)), .val (.int near), .val (.int small), .val (.int k), .val (.long g1), .second, .val (.long g2), .second, .val (.long g3), .second, .val (.long v0), .second, .val (.long v1), .second, .val (.long v2), .second, .val (.long v3), .second, .val (.long v1), .second, .val (.ref b1), .val (.int kk), .val (.long v2), .second, .val (.long bd), .second, .unset, .unset]) rfl ?_
                exact law_385_2 hw a p q r b mode near small k g1 g2 g3 v0 v1 v2 v3 _ _ _ b1 v0.toInt32 v1.toInt32 A_b1 E_b1 hv hy0 hy1
              refine WP.lload at_344 rfl (pc' := 346) rfl ?_
              refine WP.goto at_346 (pc' := 362) (by decide) ?_
              refine WP.lstore at_362 (pc' := 364) rfl (ls' := #[.val (.int a), .val (.int p), .val (.int q), .val (.int r), .val (.long b), .second, .val (.int mode), .val (.int (2 : Int32)), .val (.int near), .val (.int small), .val (.int k), .val (.long g1), .second, .val (.long g2), .second, .val (.long g3), .second, .val (.long v0), .second, .val (.long v1), .second, .val (.long v2), .second, .val (.long v3), .second, .val (.long v1), .second, .val (.ref b1), .val (.int kk), .val (.long v1), .second, .unset, .unset, .unset, .unset]) rfl ?_
              refine WP.iload at_364 rfl (pc' := 366) rfl ?_
              refine WP.ifEq at_366 (tgt := 381) (by decide) (pc' := 369) rfl (fun c366 => ?_) (fun c366 => ?_)
              ·
                refine WP.lload at_381 rfl (pc' := 383) rfl ?_
                refine WP.lstore at_383 (pc' := 385) rfl (ls' := #[.val (.int a), .val (.int p), .val (.int q), .val (.int r), .val (.long b), .second, .val (.int mode), .val (.int (2 : Int32)), .val (.int near), .val (.int small), .val (.int k), .val (.long g1), .second, .val (.long g2), .second, .val (.long g3), .second, .val (.long v0), .second, .val (.long v1), .second, .val (.long v2), .second, .val (.long v3), .second, .val (.long v1), .second, .val (.ref b1), .val (.int kk), .val (.long v1), .second, .val (.long b), .second, .unset, .unset]) rfl ?_
                exact law_385_2 hw a p q r b mode near small k g1 g2 g3 v0 v1 v2 v3 _ _ _ b1 v0.toInt32 v1.toInt32 A_b1 E_b1 hv hy0 hy1
              refine WP.lload at_369 rfl (pc' := 371) rfl ?_
              refine WP.lload at_371 rfl (pc' := 373) rfl ?_
              refine WP.ldc2J at_373 (w52 hw) (pc' := 376) rfl ?_
              refine WP.lrem at_376 (by decide) (pc' := 377) rfl ?_
              refine WP.ladd at_377 (pc' := 378) rfl ?_
              refine WP.goto at_378 (pc' := 383) (by decide) ?_
              obtain ⟨bd, e_bd⟩ : ∃ z, z = (v1 + (b - b / (3 : Int64) * (3 : Int64))) := ⟨_, rfl⟩
              rw [← e_bd]
              refine WP.lstore at_383 (pc' := 385) rfl (ls' := #[.val (.int a), .val (.int p), .val (.int q), .val (.int r), .val (.long b), .second, .val (.int mode), .val (.int (2 : Int32)), .val (.int near), .val (.int small), .val (.int k), .val (.long g1), .second, .val (.long g2), .second, .val (.long g3), .second, .val (.long v0), .second, .val (.long v1), .second, .val (.long v2), .second, .val (.long v3), .second, .val (.long v1), .second, .val (.ref b1), .val (.int kk), .val (.long v1), .second, .val (.long bd), .second, .unset, .unset]) rfl ?_
              exact law_385_2 hw a p q r b mode near small k g1 g2 g3 v0 v1 v2 v3 _ _ _ b1 v0.toInt32 v1.toInt32 A_b1 E_b1 hv hy0 hy1
            refine WP.lload at_333 rfl (pc' := 335) rfl ?_
            refine WP.goto at_335 (pc' := 362) (by decide) ?_
            refine WP.lstore at_362 (pc' := 364) rfl (ls' := #[.val (.int a), .val (.int p), .val (.int q), .val (.int r), .val (.long b), .second, .val (.int mode), .val (.int (2 : Int32)), .val (.int near), .val (.int small), .val (.int k), .val (.long g1), .second, .val (.long g2), .second, .val (.long g3), .second, .val (.long v0), .second, .val (.long v1), .second, .val (.long v2), .second, .val (.long v3), .second, .val (.long v1), .second, .val (.ref b1), .val (.int kk), .val (.long v0), .second, .unset, .unset, .unset, .unset]) rfl ?_
            refine WP.iload at_364 rfl (pc' := 366) rfl ?_
            refine WP.ifEq at_366 (tgt := 381) (by decide) (pc' := 369) rfl (fun c366 => ?_) (fun c366 => ?_)
            ·
              refine WP.lload at_381 rfl (pc' := 383) rfl ?_
              refine WP.lstore at_383 (pc' := 385) rfl (ls' := #[.val (.int a), .val (.int p), .val (.int q), .val (.int r), .val (.long b), .second, .val (.int mode), .val (.int (2 : Int32)), .val (.int near), .val (.int small), .val (.int k), .val (.long g1), .second, .val (.long g2), .second, .val (.long g3), .second, .val (.long v0), .second, .val (.long v1), .second, .val (.long v2), .second, .val (.long v3), .second, .val (.long v1), .second, .val (.ref b1), .val (.int kk), .val (.long v0), .second, .val (.long b), .second, .unset, .unset]) rfl ?_
              exact law_385_2 hw a p q r b mode near small k g1 g2 g3 v0 v1 v2 v3 _ _ _ b1 v0.toInt32 v1.toInt32 A_b1 E_b1 hv hy0 hy1
            refine WP.lload at_369 rfl (pc' := 371) rfl ?_
            refine WP.lload at_371 rfl (pc' := 373) rfl ?_
            refine WP.ldc2J at_373 (w52 hw) (pc' := 376) rfl ?_
            refine WP.lrem at_376 (by decide) (pc' := 377) rfl ?_
            refine WP.ladd at_377 (pc' := 378) rfl ?_
            refine WP.goto at_378 (pc' := 383) (by decide) ?_
            obtain ⟨bd, e_bd⟩ : ∃ z, z = (v0 + (b - b / (3 : Int64) * (3 : Int64))) := ⟨_, rfl⟩
            rw [← e_bd]
            refine WP.lstore at_383 (pc' := 385) rfl (ls' := #[.val (.int a), .val (.int p), .val (.int q), .val (.int r), .val (.long b), .second, .val (.int mode), .val (.int (2 : Int32)), .val (.int near), .val (.int small), .val (.int k), .val (.long g1), .second, .val (.long g2), .second, .val (.long g3), .second, .val (.long v0), .second, .val (.long v1), .second, .val (.long v2), .second, .val (.long v3), .second, .val (.long v1), .second, .val (.ref b1), .val (.int kk), .val (.long v0), .second, .val (.long bd), .second, .unset, .unset]) rfl ?_
            exact law_385_2 hw a p q r b mode near small k g1 g2 g3 v0 v1 v2 v3 _ _ _ b1 v0.toInt32 v1.toInt32 A_b1 E_b1 hv hy0 hy1
          exfalso; omega
        exfalso; omega
      exfalso; omega
    refine WP.iconst at_190 (z := (1 : Int32)) rfl (pc' := 191) rfl ?_
    exact WP.retN at_191 (t := .boolean) rfl (by simp) (by decide) (by decide) own_q1
  exfalso; omega
theorem law_385_3 {l : Launch} {Z : State} {a0 : Array Value} (hw : HW Z a0) {n0 : Nat} {h : Heap} (a p q r : Int32) (b : Int64) (mode near small k : Int32) (g1 g2 g3 v0 v1 v2 v3 : Int64) (kk : Int32) (vk bd : Int64) (b1 : Addr) (y0 y1 y2 : Int32) (A_b1 : Av Z h b1 .int [(.int y0), (.int y1), (.int y2)]) (E_b1 : Exa Z h b1 "[I") (hv : v0.toInt < v1.toInt ∧ v1.toInt < v2.toInt ∧ v2.toInt < v3.toInt) (hy0 : y0.toInt = v0.toInt) (hy1 : y1.toInt = v1.toInt) (hy2 : y2.toInt = v2.toInt) : WP l B0 Z n0 (fun v h' => v = some (.int 1)) h 1 3 385 #[.val (.int a), .val (.int p), .val (.int q), .val (.int r), .val (.long b), .second, .val (.int mode), .val (.int (3 : Int32)), .val (.int near), .val (.int small), .val (.int k), .val (.long g1), .second, .val (.long g2), .second, .val (.long g3), .second, .val (.long v0), .second, .val (.long v1), .second, .val (.long v2), .second, .val (.long v3), .second, .val (.long v2), .second, .val (.ref b1), .val (.int kk), .val (.long vk), .second, .val (.long bd), .second, .unset, .unset] [] := by
  have k32_0 : (0 : Int32).toInt = 0 := by decide
  have k32_1 : (1 : Int32).toInt = 1 := by decide
  have k32_2 : (2 : Int32).toInt = 2 := by decide
  have k32_3 : (3 : Int32).toInt = 3 := by decide
  refine WP.iload at_385 rfl (pc' := 387) rfl ?_
  refine WP.ifLe at_387 (tgt := 394) (by decide) (pc' := 390) rfl (fun c387 => ?_) (fun c387 => ?_)
  · exfalso; omega
  refine WP.iconst at_390 (z := (1 : Int32)) rfl (pc' := 391) rfl ?_
  refine WP.goto at_391 (pc' := 395) (by decide) ?_
  refine WP.lload at_395 rfl (pc' := 397) rfl ?_
  refine WP.lload at_397 rfl (pc' := 399) rfl ?_
  refine WP.callS (y := (⟨"com/example/singlet/singlet/network/DomainFirstAtLeastPinLaw", "below", "(ZJJ)I"⟩ : MethodName)) (By := B1) (as := [(.int (1 : Int32)), (.long v0), (.long bd)]) (rest := []) at_399 (w3 hw) (w4 hw) (w5 hw) (w6 hw) (by decide) (bel_met hw (1 : Int32) v0 bd) pd_1 rfl rfl rfl (by decide) (Nat.le_of_ble_eq_true rfl) (by decide) (by decide) (pc' := 402) rfl ?_
  rintro _ _ ⟨rfl, c0, rfl, hc0⟩
  show WP _ _ _ _ _ _ _ _ _ _ [(.int c0)]
  refine WP.iload at_402 rfl (pc' := 404) rfl ?_
  refine WP.iconst at_404 (z := (1 : Int32)) rfl (pc' := 405) rfl ?_
  refine WP.icmpLe at_405 (tgt := 412) (by decide) (pc' := 408) rfl (fun c405 => ?_) (fun c405 => ?_)
  · exfalso; omega
  refine WP.iconst at_408 (z := (1 : Int32)) rfl (pc' := 409) rfl ?_
  refine WP.goto at_409 (pc' := 413) (by decide) ?_
  refine WP.lload at_413 rfl (pc' := 415) rfl ?_
  refine WP.lload at_415 rfl (pc' := 417) rfl ?_
  refine WP.callS (y := (⟨"com/example/singlet/singlet/network/DomainFirstAtLeastPinLaw", "below", "(ZJJ)I"⟩ : MethodName)) (By := B1) (as := [(.int (1 : Int32)), (.long v1), (.long bd)]) (rest := [(.int c0)]) at_417 (w3 hw) (w4 hw) (w5 hw) (w6 hw) (by decide) (bel_met hw (1 : Int32) v1 bd) pd_1 rfl rfl rfl (by decide) (Nat.le_of_ble_eq_true rfl) (by decide) (by decide) (pc' := 420) rfl ?_
  rintro _ _ ⟨rfl, c1, rfl, hc1⟩
  show WP _ _ _ _ _ _ _ _ _ _ [(.int c1), (.int c0)]
  refine WP.iadd at_420 (pc' := 421) rfl ?_
  refine WP.iload at_421 rfl (pc' := 423) rfl ?_
  refine WP.iconst at_423 (z := (2 : Int32)) rfl (pc' := 424) rfl ?_
  refine WP.icmpLe at_424 (tgt := 431) (by decide) (pc' := 427) rfl (fun c424 => ?_) (fun c424 => ?_)
  · exfalso; omega
  refine WP.iconst at_427 (z := (1 : Int32)) rfl (pc' := 428) rfl ?_
  refine WP.goto at_428 (pc' := 432) (by decide) ?_
  refine WP.lload at_432 rfl (pc' := 434) rfl ?_
  refine WP.lload at_434 rfl (pc' := 436) rfl ?_
  refine WP.callS (y := (⟨"com/example/singlet/singlet/network/DomainFirstAtLeastPinLaw", "below", "(ZJJ)I"⟩ : MethodName)) (By := B1) (as := [(.int (1 : Int32)), (.long v2), (.long bd)]) (rest := [(.int (c0 + c1))]) at_436 (w3 hw) (w4 hw) (w5 hw) (w6 hw) (by decide) (bel_met hw (1 : Int32) v2 bd) pd_1 rfl rfl rfl (by decide) (Nat.le_of_ble_eq_true rfl) (by decide) (by decide) (pc' := 439) rfl ?_
  rintro _ _ ⟨rfl, c2, rfl, hc2⟩
  show WP _ _ _ _ _ _ _ _ _ _ [(.int c2), (.int (c0 + c1))]
  refine WP.iadd at_439 (pc' := 440) rfl ?_
  refine WP.iload at_440 rfl (pc' := 442) rfl ?_
  refine WP.iconst at_442 (z := (3 : Int32)) rfl (pc' := 443) rfl ?_
  refine WP.icmpLe at_443 (tgt := 450) (by decide) (pc' := 446) rfl (fun c443 => ?_) (fun c443 => ?_)
  ·
    refine WP.iconst at_450 (z := (0 : Int32)) rfl (pc' := 451) rfl ?_
    refine WP.lload at_451 rfl (pc' := 453) rfl ?_
    refine WP.lload at_453 rfl (pc' := 455) rfl ?_
    refine WP.callS (y := (⟨"com/example/singlet/singlet/network/DomainFirstAtLeastPinLaw", "below", "(ZJJ)I"⟩ : MethodName)) (By := B1) (as := [(.int (0 : Int32)), (.long v3), (.long bd)]) (rest := [(.int ((c0 + c1) + c2))]) at_455 (w3 hw) (w4 hw) (w5 hw) (w6 hw) (by decide) (bel_met hw (0 : Int32) v3 bd) pd_1 rfl rfl rfl (by decide) (Nat.le_of_ble_eq_true rfl) (by decide) (by decide) (pc' := 458) rfl ?_
    rintro _ _ ⟨rfl, c3, rfl, hc3⟩
    show WP _ _ _ _ _ _ _ _ _ _ [(.int c3), (.int ((c0 + c1) + c2))]
    refine WP.iadd at_458 (pc' := 459) rfl ?_
    obtain ⟨ex, e_ex⟩ : ∃ z, z = (((c0 + c1) + c2) + c3) := ⟨_, rfl⟩
    rw [← e_ex]
    refine WP.istore at_459 (pc' := 461) rfl (ls' := #[.val (.int a), .val (.int p), .val (.int q), .val (.int r), .val (.long b), .second, .val (.int mode), .val (.int (3 : Int32)), .val (.int near), .val (.int small), .val (.int k), .val (.long g1), .second, .val (.long g2), .second, .val (.long g3), .second, .val (.long v0), .second, .val (.long v1), .second, .val (.long v2), .second, .val (.long v3), .second, .val (.long v2), .second, .val (.ref b1), .val (.int kk), .val (.long vk), .second, .val (.long bd), .second, .val (.int ex), .unset]) rfl ?_
    have f1 : (c0 + c1).toInt = c0.toInt + c1.toInt := by rw [own_iadd] <;> omega
    have f2 : (c0 + c1 + c2).toInt = c0.toInt + c1.toInt + c2.toInt := by rw [own_iadd] <;> omega
    have f3 : ex.toInt = c0.toInt + c1.toInt + c2.toInt + c3.toInt := by rw [e_ex, own_iadd] <;> omega
    clear f1 f2
    refine WP.newobj (lay := L_DM) (vs := [.null, .null, .null, .null, .null, (.int 0), (.int 0), .null, (.int 0)]) at_461 (w7 hw) (w8 hw) (w9 hw) (lay_DM hw) rfl (by decide) (by decide) (pc' := 464) rfl ?_
    intro d h5 eb_d g_d K6 O_d
    have lt_b1_d : b1 < d := by rw [eb_d]; exact A_b1.lt
    replace E_b1 := E_b1.keep K6
    replace A_b1 := A_b1.keep K6 own_nil
    refine WP.dup at_464 rfl (pc' := 465) rfl ?_
    refine WP.aload at_465 rfl rfl (pc' := 467) rfl ?_
    refine WP.callI (a := d) (y := (⟨"com/example/singlet/singlet/network/Domain", "<init>", "([I)V"⟩ : MethodName)) (By := B2) (as := [(.ref b1)]) (rest := [(.ref d)]) at_467 (w10 hw) (w11 hw) (w9 hw) (w12 hw) rfl rfl (by decide) (c1_3 hw d b1 y0 y1 y2 g_d O_d A_b1 E_b1 ⟨by omega, by omega⟩ (by first | assumption | exact Ne.symm (by assumption) | exact Nat.ne_of_lt (by assumption) | exact Nat.ne_of_gt (by assumption))) pd_2 rfl rfl rfl (by decide) (Nat.le_of_ble_eq_true rfl) (by decide) (by decide) (pc' := 470) rfl ?_
    rintro _ h7 ⟨rfl, va, z1, z2, z3, z4, z5, z6, z7, z8, O_n, A_va⟩
    replace O_d := O_n
    show WP _ _ _ _ _ _ _ _ _ _ [(.ref d)]
    refine WP.astore at_470 (pc' := 472) rfl rfl (ls' := #[.val (.int a), .val (.int p), .val (.int q), .val (.int r), .val (.long b), .second, .val (.int mode), .val (.int (3 : Int32)), .val (.int near), .val (.int small), .val (.int k), .val (.long g1), .second, .val (.long g2), .second, .val (.long g3), .second, .val (.long v0), .second, .val (.long v1), .second, .val (.long v2), .second, .val (.long v3), .second, .val (.long v2), .second, .val (.ref b1), .val (.int kk), .val (.long vk), .second, .val (.long bd), .second, .val (.int ex), .val (.ref d)]) rfl ?_
    refine WP.aload at_472 rfl rfl (pc' := 474) rfl ?_
    refine WP.lload at_474 rfl (pc' := 476) rfl ?_
    refine WP.callV (a := d) (z := (⟨"com/example/singlet/singlet/network/Domain", "firstAtLeast", "(J)I"⟩ : MethodName)) (Cl := "com/example/singlet/singlet/network/Domain") (y := (⟨"com/example/singlet/singlet/network/Domain", "firstAtLeast", "(J)I"⟩ : MethodName)) (By := B5) (as := [(.long bd)]) (rest := []) at_476 (w47 hw) (w48 hw) (w50 hw) (w49 hw) (w9 hw) (w51 hw) rfl rfl (by decide) O_d.1 (fal_3 hw d va bd y0 y1 y2 z1 z2 z3 z4 z5 z6 z7 z8 O_d A_va ⟨by omega, by omega⟩) pd_3 rfl rfl rfl (by decide) (Nat.le_of_ble_eq_true rfl) (by decide) (by decide) (pc' := 479) rfl ?_
    rintro _ _ ⟨rfl, fr, rfl, hf1, hf2, hf10, hf11, hf12⟩
    show WP _ _ _ _ _ _ _ _ _ _ [(.int fr)]
    refine WP.iload at_479 rfl (pc' := 481) rfl ?_
    refine WP.icmpNe at_481 (tgt := 488) (by decide) (pc' := 484) rfl (fun c481 => ?_) (fun c481 => ?_)
    ·
      refine WP.iconst at_488 (z := (0 : Int32)) rfl (pc' := 489) rfl ?_
      exact WP.retN at_489 (t := .boolean) rfl (by simp) (by decide) (by decide) (by exfalso; omega)
    refine WP.iconst at_484 (z := (1 : Int32)) rfl (pc' := 485) rfl ?_
    refine WP.goto at_485 (pc' := 489) (by decide) ?_
    exact WP.retN at_489 (t := .boolean) rfl (by simp) (by decide) (by decide) own_q1
  exfalso; omega
theorem law_144_3 {l : Launch} {Z : State} {a0 : Array Value} (hw : HW Z a0) {n0 : Nat} {h : Heap} (a p q r : Int32) (b : Int64) (mode near small k : Int32) (g1 g2 g3 v0 v1 v2 v3 : Int64) (hv : v0.toInt < v1.toInt ∧ v1.toInt < v2.toInt ∧ v2.toInt < v3.toInt) (hr : -2147483648 ≤ v0.toInt ∧ v0.toInt ≤ 2147483647) : WP l B0 Z n0 (fun v h' => v = some (.int 1)) h 0 0 144 #[.val (.int a), .val (.int p), .val (.int q), .val (.int r), .val (.long b), .second, .val (.int mode), .val (.int (3 : Int32)), .val (.int near), .val (.int small), .val (.int k), .val (.long g1), .second, .val (.long g2), .second, .val (.long g3), .second, .val (.long v0), .second, .val (.long v1), .second, .val (.long v2), .second, .val (.long v3), .second, .unset, .unset, .unset, .unset, .unset, .unset, .unset, .unset, .unset, .unset] [] := by
  have k32_0 : (0 : Int32).toInt = 0 := by decide
  have k32_1 : (1 : Int32).toInt = 1 := by decide
  have k32_2 : (2 : Int32).toInt = 2 := by decide
  have k32_3 : (3 : Int32).toInt = 3 := by decide
  have k64_3 : (3 : Int64).toInt = 3 := by decide
  have k64_2147483647 : (2147483647 : Int64).toInt = 2147483647 := by decide
  refine WP.iload at_144 rfl (pc' := 146) rfl ?_
  refine WP.iconst at_146 (z := (1 : Int32)) rfl (pc' := 147) rfl ?_
  refine WP.icmpGt at_147 (tgt := 155) (by decide) (pc' := 150) rfl (fun c147 => ?_) (fun c147 => ?_)
  ·
    refine WP.iload at_155 rfl (pc' := 157) rfl ?_
    refine WP.iconst at_157 (z := (2 : Int32)) rfl (pc' := 158) rfl ?_
    refine WP.icmpNe at_158 (tgt := 166) (by decide) (pc' := 161) rfl (fun c158 => ?_) (fun c158 => ?_)
    ·
      refine WP.iload at_166 rfl (pc' := 168) rfl ?_
      refine WP.iconst at_168 (z := (3 : Int32)) rfl (pc' := 169) rfl ?_
      refine WP.icmpNe at_169 (tgt := 177) (by decide) (pc' := 172) rfl (fun c169 => ?_) (fun c169 => ?_)
      · exfalso; omega
      refine WP.lload at_172 rfl (pc' := 174) rfl ?_
      refine WP.goto at_174 (pc' := 179) (by decide) ?_
      refine WP.lstore at_179 (pc' := 181) rfl (ls' := #[.val (.int a), .val (.int p), .val (.int q), .val (.int r), .val (.long b), .second, .val (.int mode), .val (.int (3 : Int32)), .val (.int near), .val (.int small), .val (.int k), .val (.long g1), .second, .val (.long g2), .second, .val (.long g3), .second, .val (.long v0), .second, .val (.long v1), .second, .val (.long v2), .second, .val (.long v3), .second, .val (.long v2), .second, .unset, .unset, .unset, .unset, .unset, .unset, .unset, .unset]) rfl ?_
      refine WP.lload at_181 rfl (pc' := 183) rfl ?_
      refine WP.ldc2J at_183 (w1 hw) (pc' := 186) rfl ?_
      refine WP.lcmpLe at_186 rfl at_187 (tgt := 192) (by decide) (pc' := 190) rfl (fun c186 => ?_) (fun c186 => ?_)
      ·
        have hy0 : v0.toInt32.toInt = v0.toInt := by have q1 := c_l2i v0; have q2 := own_r32 v0.toInt32; omega
        have hy1 : v1.toInt32.toInt = v1.toInt := by have q1 := c_l2i v1; have q2 := own_r32 v1.toInt32; omega
        have hy2 : v2.toInt32.toInt = v2.toInt := by have q1 := c_l2i v2; have q2 := own_r32 v2.toInt32; omega
        refine WP.iload at_192 rfl (pc' := 194) rfl ?_
        refine WP.ifNe at_194 (tgt := 205) (by decide) (pc' := 197) rfl (fun c194 => ?_) (fun c194 => ?_)
        ·
          refine WP.iload at_205 rfl (pc' := 207) rfl ?_
          refine WP.iconst at_207 (z := (1 : Int32)) rfl (pc' := 208) rfl ?_
          refine WP.icmpNe at_208 (tgt := 225) (by decide) (pc' := 211) rfl (fun c208 => ?_) (fun c208 => ?_)
          ·
            refine WP.iload at_225 rfl (pc' := 227) rfl ?_
            refine WP.iconst at_227 (z := (2 : Int32)) rfl (pc' := 228) rfl ?_
            refine WP.icmpNe at_228 (tgt := 251) (by decide) (pc' := 231) rfl (fun c228 => ?_) (fun c228 => ?_)
            ·
              refine WP.iload at_251 rfl (pc' := 253) rfl ?_
              refine WP.iconst at_253 (z := (3 : Int32)) rfl (pc' := 254) rfl ?_
              refine WP.icmpNe at_254 (tgt := 283) (by decide) (pc' := 257) rfl (fun c254 => ?_) (fun c254 => ?_)
              · exfalso; omega
              refine WP.iconst at_257 (z := (3 : Int32)) rfl (pc' := 258) rfl ?_
              refine WP.newarrE at_258 (w2 hw) (k := 3) rfl 3 (by decide) (by decide) (by decide) (by decide) (ad := "[I") (by decide) (pc' := 260) rfl ?_
              intro b1 h1 eb_b1 g_b1 K2 A_b1 E_b1
              replace A_b1 : Av Z h1 b1 .int [.int 0, .int 0, .int 0] := A_b1
              refine WP.dup at_260 rfl (pc' := 261) rfl ?_
              refine WP.iconst at_261 (z := (0 : Int32)) rfl (pc' := 262) rfl ?_
              refine WP.lload at_262 rfl (pc' := 264) rfl ?_
              refine WP.l2i at_264 (pc' := 265) rfl ?_
              refine WP.iastore 0 at_265 A_b1 rfl (Nat.le_of_ble_eq_true rfl) g_b1 (pc' := 266) rfl ?_
              intro h3 K4 A_n
              replace E_b1 := E_b1.keep K4
              replace A_b1 : Av Z h3 b1 .int [(.int v0.toInt32), (.int 0), (.int 0)] := A_n
              clear A_n
              refine WP.dup at_266 rfl (pc' := 267) rfl ?_
              refine WP.iconst at_267 (z := (1 : Int32)) rfl (pc' := 268) rfl ?_
              refine WP.lload at_268 rfl (pc' := 270) rfl ?_
              refine WP.l2i at_270 (pc' := 271) rfl ?_
              refine WP.iastore 1 at_271 A_b1 rfl (Nat.le_of_ble_eq_true rfl) g_b1 (pc' := 272) rfl ?_
              intro h5 K6 A_n
              replace E_b1 := E_b1.keep K6
              replace A_b1 : Av Z h5 b1 .int [(.int v0.toInt32), (.int v1.toInt32), (.int 0)] := A_n
              clear A_n
              refine WP.dup at_272 rfl (pc' := 273) rfl ?_
              refine WP.iconst at_273 (z := (2 : Int32)) rfl (pc' := 274) rfl ?_
              refine WP.lload at_274 rfl (pc' := 276) rfl ?_
              refine WP.l2i at_276 (pc' := 277) rfl ?_
              refine WP.iastore 2 at_277 A_b1 rfl (Nat.le_of_ble_eq_true rfl) g_b1 (pc' := 278) rfl ?_
              intro h7 K8 A_n
              replace E_b1 := E_b1.keep K8
              replace A_b1 : Av Z h7 b1 .int [(.int v0.toInt32), (.int v1.toInt32), (.int v2.toInt32)] := A_n
              clear A_n
              refine WP.astore at_278 (pc' := 280) rfl rfl (ls' := #[.val (.int a), .val (.int p), .val (.int q), .val (.int r), .val (.long b), .second, .val (.int mode), .val (.int (3 : Int32)), .val (.int near), .val (.int small), .val (.int k), .val (.long g1), .second, .val (.long g2), .second, .val (.long g3), .second, .val (.long v0), .second, .val (.long v1), .second, .val (.long v2), .second, .val (.long v3), .second, .val (.long v2), .second, .val (.ref b1), .unset, .unset, .unset, .unset, .unset, .unset, .unset]) rfl ?_
              refine WP.goto at_280 (pc' := 312) (by decide) ?_
              refine WP.iload at_312 rfl (pc' := 314) rfl ?_
              refine WP.ifNe at_314 (tgt := 321) (by decide) (pc' := 317) rfl (fun c314 => ?_) (fun c314 => ?_)
              ·
                refine WP.iload at_321 rfl (pc' := 323) rfl ?_
                refine WP.iload at_323 rfl (pc' := 325) rfl ?_
                refine WP.irem at_325 (by decide) (pc' := 326) rfl ?_
                obtain ⟨kk, e_kk⟩ : ∃ z, z = (k % (3 : Int32)) := ⟨_, rfl⟩
                rw [← e_kk]
                refine WP.istore at_326 (pc' := 328) rfl (ls' := #[.val (.int a), .val (.int p), .val (.int q), .val (.int r), .val (.long b), .second, .val (.int mode), .val (.int (3 : Int32)), .val (.int near), .val (.int small), .val (.int k), .val (.long g1), .second, .val (.long g2), .second, .val (.long g3), .second, .val (.long v0), .second, .val (.long v1), .second, .val (.long v2), .second, .val (.long v3), .second, .val (.long v2), .second, .val (.ref b1), .val (.int kk), .unset, .unset, .unset, .unset, .unset, .unset]) rfl ?_
                refine WP.iload at_328 rfl (pc' := 330) rfl ?_
                refine WP.ifNe at_330 (tgt := 338) (by decide) (pc' := 333) rfl (fun c330 => ?_) (fun c330 => ?_)
                ·
                  refine WP.iload at_338 rfl (pc' := 340) rfl ?_
                  refine WP.iconst at_340 (z := (1 : Int32)) rfl (pc' := 341) rfl ?_
                  refine WP.icmpNe at_341 (tgt := 349) (by decide) (pc' := 344) rfl (fun c341 => ?_) (fun c341 => ?_)
                  ·
                    refine WP.iload at_349 rfl (pc' := 351) rfl ?_
                    refine WP.iconst at_351 (z := (2 : Int32)) rfl (pc' := 352) rfl ?_
                    refine WP.icmpNe at_352 (tgt := 360) (by decide) (pc' := 355) rfl (fun c352 => ?_) (fun c352 => ?_)
                    ·
                      refine WP.lload at_360 rfl (pc' := 362) rfl ?_
                      refine WP.lstore at_362 (pc' := 364) rfl (ls' := #[.val (.int a), .val (.int p), .val (.int q), .val (.int r), .val (.long b), .second, .val (.int mode), .val (.int (3 : Int32)), .val (.int near), .val (.int small), .val (.int k), .val (.long g1), .second, .val (.long g2), .second, .val (.long g3), .second, .val (.long v0), .second, .val (.long v1), .second, .val (.long v2), .second, .val (.long v3), .second, .val (.long v2), .second, .val (.ref b1), .val (.int kk), .val (.long v3), .second, .unset, .unset, .unset, .unset]) rfl ?_
                      refine WP.iload at_364 rfl (pc' := 366) rfl ?_
                      refine WP.ifEq at_366 (tgt := 381) (by decide) (pc' := 369) rfl (fun c366 => ?_) (fun c366 => ?_)
                      ·
                        refine WP.lload at_381 rfl (pc' := 383) rfl ?_
                        refine WP.lstore at_383 (pc' := 385) rfl (ls' := #[.val (.int a), .val (.int p), .val (.int q), .val (.int r), .val (.long b), .second, .val (.int mode), .val (.int (3 : Int32)), .val (.int near), .val (.int small), .val (.int k), .val (.long g1), .second, .val (.long g2), .second, .val (.long g3), .second, .val (.long v0), .second, .val (.long v1), .second, .val (.long v2), .second, .val (.long v3), .second, .val (.long v2), .second, .val (.ref b1), .val (.int kk), .val (.long v3), .second, .val (.long b), .second, .unset, .unset]) rfl ?_
                        exact law_385_3 hw a p q r b mode near small k g1 g2 g3 v0 v1 v2 v3 _ _ _ b1 v0.toInt32 v1.toInt32 v2.toInt32 A_b1 E_b1 hv hy0 hy1 hy2
                      refine WP.lload at_369 rfl (pc' := 371) rfl ?_
                      refine WP.lload at_371 rfl (pc' := 373) rfl ?_
                      refine WP.ldc2J at_373 (w52 hw) (pc' := 376) rfl ?_
                      refine WP.lrem at_376 (by decide) (pc' := 377) rfl ?_
                      refine WP.ladd at_377 (pc' := 378) rfl ?_
                      refine WP.goto at_378 (pc' := 383) (by decide) ?_
                      obtain ⟨bd, e_bd⟩ : ∃ z, z = (v3 + (b - b / (3 : Int64) * (3 : Int64))) := ⟨_, rfl⟩
                      rw [← e_bd]
                      refine WP.lstore at_383 (pc' := 385) rfl (ls' := #[.val (.int a), .val (.int p), .val (.int q), .val (.int r), .val (.long b), .second, .val (.int mode), .val (.int (3 : Int32)), .val (.int near), .val (.int small), .val (.int k), .val (.long g1), .second, .val (.long g2), .second, .val (.long g3), .second, .val (.long v0), .second, .val (.long v1), .second, .val (.long v2), .second, .val (.long v3), .second, .val (.long v2), .second, .val (.ref b1), .val (.int kk), .val (.long v3), .second, .val (.long bd), .second, .unset, .unset]) rfl ?_
                      exact law_385_3 hw a p q r b mode near small k g1 g2 g3 v0 v1 v2 v3 _ _ _ b1 v0.toInt32 v1.toInt32 v2.toInt32 A_b1 E_b1 hv hy0 hy1 hy2
                    refine WP.lload at_355 rfl (pc' := 357) rfl ?_
                    refine WP.goto at_357 (pc' := 362) (by decide) ?_
                    refine WP.lstore at_362 (pc' := 364) rfl (ls' := #[.val (.int a), .val (.int p), .val (.int q), .val (.int r), .val (.long b), .second, .val (.int mode), .val (.int (3 : Int32)), .val (.int near), .val (.int small), .val (.int k), .val (.long g1), .second, .val (.long g2), .second, .val (.long g3), .second, .val (.long v0), .second, .val (.long v1), .second, .val (.long v2), .second, .val (.long v3), .second, .val (.long v2), .second, .val (.ref b1), .val (.int kk), .val (.long v2), .second, .unset, .unset, .unset, .unset]) rfl ?_
                    refine WP.iload at_364 rfl (pc' := 366) rfl ?_
                    refine WP.ifEq at_366 (tgt := 381) (by decide) (pc' := 369) rfl (fun c366 => ?_) (fun c366 => ?_)
                    ·
                      refine WP.lload at_381 rfl (pc' := 383) rfl ?_
                      refine WP.lstore at_383 (pc' := 385) rfl (ls' := #[.val (.int a), .val (.int p), .val (.int q), .val (.int r), .val (.long b), .second, .val (.int mode), .val (.int (3 : Int32)), .val (.int near), .val (.int small), .val (.int k), .val (.long g1), .second, .val (.long g2), .second, .val (.long g3), .second, .val (.long v0), .second, .val (.long v1), .second, .val (.long v2), .second, .val (.long v3), .second, .val (.long v2), .second, .val (.ref b1), .val (.int kk), .val (.long v2), .second, .val (.long b), .second, .unset, .unset]) rfl ?_
                      exact law_385_3 hw a p q r b mode near small k g1 g2 g3 v0 v1 v2 v3 _ _ _ b1 v0.toInt32 v1.toInt32 v2.toInt32 A_b1 E_b1 hv hy0 hy1 hy2
                    refine WP.lload at_369 rfl (pc' := 371) rfl ?_
                    refine WP.lload at_371 rfl (pc' := 373) rfl ?_
                    refine WP.ldc2J at_373 (w52 hw) (pc' := 376) rfl ?_
                    refine WP.lrem at_376 (by decide) (pc' := 377) rfl ?_
                    refine WP.ladd at_377 (pc' := 378) rfl ?_
                    refine WP.goto at_378 (pc' := 383) (by decide) ?_
                    obtain ⟨bd, e_bd⟩ : ∃ z, z = (v2 + (b - b / (3 : Int64) * (3 : Int64))) := ⟨_, rfl⟩
                    rw [← e_bd]
                    refine WP.lstore at_383 (pc' := 385) rfl (ls' := #[.val (.int a), .val (.int p), .val (.int q), .val (.int r), .val (.long b), .second, .val (.int mode), .val (.int (3 : Int32)), .val (.int near), .val (.int small), .val (.int k), .val (.long g1), .second, .val (.long g2), .second, .val (.long g3), .second, .val (.long v0), .second, .val (.long v1), .second, .val (.long v2), .second, .val (.long v3), .second, .val (.long v2), .second, .val (.ref b1), .val (.int kk), .val (.long v2), .second, .val (.long bd), .second, .unset, .unset]) rfl ?_
                    exact law_385_3 hw a p q r b mode near small k g1 g2 g3 v0 v1 v2 v3 _ _ _ b1 v0.toInt32 v1.toInt32 v2.toInt32 A_b1 E_b1 hv hy0 hy1 hy2
                  refine WP.lload at_344 rfl (pc' := 346) rfl ?_
                  refine WP.goto at_346 (pc' := 362) (by decide) ?_
                  refine WP.lstore at_362 (pc' := 364) rfl (ls' := #[.val (.int a), .val (.int p), .val (.int q), .val (.int r), .val (.long b), .second, .val (.int mode), .val (.int (3 : Int32)), .val (.int near), .val (.int small), .val (.int k), .val (.long g1), .second, .val (.long g2), .second, .val (.long g3), .second, .val (.long v0), .second, .val (.long v1), .second, .val (.long v2), .second, .val (.long v3), .second, .val (.long v2), .second, .val (.ref b1), .val (.int kk), .val (.long v1), .second, .unset, .unset, .unset, .unset]) rfl ?_
                  refine WP.iload at_364 rfl (pc' := 366) rfl ?_
                  refine WP.ifEq at_366 (tgt := 381) (by decide) (pc' := 369) rfl (fun c366 => ?_) (fun c366 => ?_)
                  ·
                    refine WP.lload at_381 rfl (pc' := 383) rfl ?_
                    refine WP.lstore at_383 (pc' := 385) rfl (ls' := #[.val (.int a), .val (.int p), .val (.int q), .val (.int r), .val (.long b), .second, .val (.int mode), .val (.int (3 : Int32)), .val (.int near), .val (.int small), .val (.int k), .val (.long g1), .second, .val (.long g2), .second, .val (.long g3), .second, .val (.long v0), .second, .val (.long v1), .second, .val (.long v2), .second, .val (.long v3), .second, .val (.long v2), .second, .val (.ref b1), .val (.int kk), .val (.long v1), .second, .val (.long b), .second, .unset, .unset]) rfl ?_
                    exact law_385_3 hw a p q r b mode near small k g1 g2 g3 v0 v1 v2 v3 _ _ _ b1 v0.toInt32 v1.toInt32 v2.toInt32 A_b1 E_b1 hv hy0 hy1 hy2
                  refine WP.lload at_369 rfl (pc' := 371) rfl ?_
                  refine WP.lload at_371 rfl (pc' := 373) rfl ?_
                  refine WP.ldc2J at_373 (w52 hw) (pc' := 376) rfl ?_
                  refine WP.lrem at_376 (by decide) (pc' := 377) rfl ?_
                  refine WP.ladd at_377 (pc' := 378) rfl ?_
                  refine WP.goto at_378 (pc' := 383) (by decide) ?_
                  obtain ⟨bd, e_bd⟩ : ∃ z, z = (v1 + (b - b / (3 : Int64) * (3 : Int64))) := ⟨_, rfl⟩
                  rw [← e_bd]
                  refine WP.lstore at_383 (pc' := 385) rfl (ls' := #[.val (.int a), .val (.int p), .val (.int q), .val (.int r), .val (.long b), .second, .val (.int mode), .val (.int (3 : Int32)), .val (.int near), .val (.int small), .val (.int k), .val (.long g1), .second, .val (.long g2), .second, .val (.long g3), .second, .val (.long v0), .second, .val (.long v1), .second, .val (.long v2), .second, .val (.long v3), .second, .val (.long v2), .second, .val (.ref b1), .val (.int kk), .val (.long v1), .second, .val (.long bd), .second, .unset, .unset]) rfl ?_
                  exact law_385_3 hw a p q r b mode near small k g1 g2 g3 v0 v1 v2 v3 _ _ _ b1 v0.toInt32 v1.toInt32 v2.toInt32 A_b1 E_b1 hv hy0 hy1 hy2
                refine WP.lload at_333 rfl (pc' := 335) rfl ?_
                refine WP.goto at_335 (pc' := 362) (by decide) ?_
                refine WP.lstore at_362 (pc' := 364) rfl (ls' := #[.val (.int a), .val (.int p), .val (.int q), .val (.int r), .val (.long b), .second, .val (.int mode), .val (.int (3 : Int32)), .val (.int near), .val (.int small), .val (.int k), .val (.long g1), .second, .val (.long g2), .second, .val (.long g3), .second, .val (.long v0), .second, .val (.long v1), .second, .val (.long v2), .second, .val (.long v3), .second, .val (.long v2), .second, .val (.ref b1), .val (.int kk), .val (.long v0), .second, .unset, .unset, .unset, .unset]) rfl ?_
                refine WP.iload at_364 rfl (pc' := 366) rfl ?_
                refine WP.ifEq at_366 (tgt := 381) (by decide) (pc' := 369) rfl (fun c366 => ?_) (fun c366 => ?_)
                ·
                  refine WP.lload at_381 rfl (pc' := 383) rfl ?_
                  refine WP.lstore at_383 (pc' := 385) rfl (ls' := #[.val (.int a), .val (.int p), .val (.int q), .val (.int r), .val (.long b), .second, .val (.int mode), .val (.int (3 : Int32)), .val (.int near), .val (.int small), .val (.int k), .val (.long g1), .second, .val (.long g2), .second, .val (.long g3), .second, .val (.long v0), .second, .val (.long v1), .second, .val (.long v2), .second, .val (.long v3), .second, .val (.long v2), .second, .val (.ref b1), .val (.int kk), .val (.long v0), .second, .val (.long b), .second, .unset, .unset]) rfl ?_
                  exact law_385_3 hw a p q r b mode near small k g1 g2 g3 v0 v1 v2 v3 _ _ _ b1 v0.toInt32 v1.toInt32 v2.toInt32 A_b1 E_b1 hv hy0 hy1 hy2
                refine WP.lload at_369 rfl (pc' := 371) rfl ?_
                refine WP.lload at_371 rfl (pc' := 373) rfl ?_
                refine WP.ldc2J at_373 (w52 hw) (pc' := 376) rfl ?_
                refine WP.lrem at_376 (by decide) (pc' := 377) rfl ?_
                refine WP.ladd at_377 (pc' := 378) rfl ?_
                refine WP.goto at_378 (pc' := 383) (by decide) ?_
                obtain ⟨bd, e_bd⟩ : ∃ z, z = (v0 + (b - b / (3 : Int64) * (3 : Int64))) := ⟨_, rfl⟩
                rw [← e_bd]
                refine WP.lstore at_383 (pc' := 385) rfl (ls' := #[.val (.int a), .val (.int p), .val (.int q), .val (.int r), .val (.long b), .second, .val (.int mode), .val (.int (3 : Int32)), .val (.int near), .val (.int small), .val (.int k), .val (.long g1), .second, .val (.long g2), .second, .val (.long g3), .second, .val (.long v0), .second, .val (.long v1), .second, .val (.long v2), .second, .val (.long v3), .second, .val (.long v2), .second, .val (.ref b1), .val (.int kk), .val (.long v0), .second, .val (.long bd), .second, .unset, .unset]) rfl ?_
                exact law_385_3 hw a p q r b mode near small k g1 g2 g3 v0 v1 v2 v3 _ _ _ b1 v0.toInt32 v1.toInt32 v2.toInt32 A_b1 E_b1 hv hy0 hy1 hy2
              exfalso; omega
            exfalso; omega
          exfalso; omega
        exfalso; omega
      refine WP.iconst at_190 (z := (1 : Int32)) rfl (pc' := 191) rfl ?_
      exact WP.retN at_191 (t := .boolean) rfl (by simp) (by decide) (by decide) own_q1
    exfalso; omega
  exfalso; omega
theorem law_385_4 {l : Launch} {Z : State} {a0 : Array Value} (hw : HW Z a0) {n0 : Nat} {h : Heap} (a p q r : Int32) (b : Int64) (mode near small k : Int32) (g1 g2 g3 v0 v1 v2 v3 : Int64) (kk : Int32) (vk bd : Int64) (b1 : Addr) (y0 y1 y2 y3 : Int32) (A_b1 : Av Z h b1 .int [(.int y0), (.int y1), (.int y2), (.int y3)]) (E_b1 : Exa Z h b1 "[I") (hv : v0.toInt < v1.toInt ∧ v1.toInt < v2.toInt ∧ v2.toInt < v3.toInt) (hy0 : y0.toInt = v0.toInt) (hy1 : y1.toInt = v1.toInt) (hy2 : y2.toInt = v2.toInt) (hy3 : y3.toInt = v3.toInt) : WP l B0 Z n0 (fun v h' => v = some (.int 1)) h 1 4 385 #[.val (.int a), .val (.int p), .val (.int q), .val (.int r), .val (.long b), .second, .val (.int mode), .val (.int (4 : Int32)), .val (.int near), .val (.int small), .val (.int k), .val (.long g1), .second, .val (.long g2), .second, .val (.long g3), .second, .val (.long v0), .second, .val (.long v1), .second, .val (.long v2), .second, .val (.long v3), .second, .val (.long v3), .second, .val (.ref b1), .val (.int kk), .val (.long vk), .second, .val (.long bd), .second, .unset, .unset] [] := by
  have k32_0 : (0 : Int32).toInt = 0 := by decide
  have k32_1 : (1 : Int32).toInt = 1 := by decide
  have k32_2 : (2 : Int32).toInt = 2 := by decide
  have k32_3 : (3 : Int32).toInt = 3 := by decide
  have k32_4 : (4 : Int32).toInt = 4 := by decide
  refine WP.iload at_385 rfl (pc' := 387) rfl ?_
  refine WP.ifLe at_387 (tgt := 394) (by decide) (pc' := 390) rfl (fun c387 => ?_) (fun c387 => ?_)
  · exfalso; omega
  refine WP.iconst at_390 (z := (1 : Int32)) rfl (pc' := 391) rfl ?_
  refine WP.goto at_391 (pc' := 395) (by decide) ?_
  refine WP.lload at_395 rfl (pc' := 397) rfl ?_
  refine WP.lload at_397 rfl (pc' := 399) rfl ?_
  refine WP.callS (y := (⟨"com/example/singlet/singlet/network/DomainFirstAtLeastPinLaw", "below", "(ZJJ)I"⟩ : MethodName)) (By := B1) (as := [(.int (1 : Int32)), (.long v0), (.long bd)]) (rest := []) at_399 (w3 hw) (w4 hw) (w5 hw) (w6 hw) (by decide) (bel_met hw (1 : Int32) v0 bd) pd_1 rfl rfl rfl (by decide) (Nat.le_of_ble_eq_true rfl) (by decide) (by decide) (pc' := 402) rfl ?_
  rintro _ _ ⟨rfl, c0, rfl, hc0⟩
  show WP _ _ _ _ _ _ _ _ _ _ [(.int c0)]
  refine WP.iload at_402 rfl (pc' := 404) rfl ?_
  refine WP.iconst at_404 (z := (1 : Int32)) rfl (pc' := 405) rfl ?_
  refine WP.icmpLe at_405 (tgt := 412) (by decide) (pc' := 408) rfl (fun c405 => ?_) (fun c405 => ?_)
  · exfalso; omega
  refine WP.iconst at_408 (z := (1 : Int32)) rfl (pc' := 409) rfl ?_
  refine WP.goto at_409 (pc' := 413) (by decide) ?_
  refine WP.lload at_413 rfl (pc' := 415) rfl ?_
  refine WP.lload at_415 rfl (pc' := 417) rfl ?_
  refine WP.callS (y := (⟨"com/example/singlet/singlet/network/DomainFirstAtLeastPinLaw", "below", "(ZJJ)I"⟩ : MethodName)) (By := B1) (as := [(.int (1 : Int32)), (.long v1), (.long bd)]) (rest := [(.int c0)]) at_417 (w3 hw) (w4 hw) (w5 hw) (w6 hw) (by decide) (bel_met hw (1 : Int32) v1 bd) pd_1 rfl rfl rfl (by decide) (Nat.le_of_ble_eq_true rfl) (by decide) (by decide) (pc' := 420) rfl ?_
  rintro _ _ ⟨rfl, c1, rfl, hc1⟩
  show WP _ _ _ _ _ _ _ _ _ _ [(.int c1), (.int c0)]
  refine WP.iadd at_420 (pc' := 421) rfl ?_
  refine WP.iload at_421 rfl (pc' := 423) rfl ?_
  refine WP.iconst at_423 (z := (2 : Int32)) rfl (pc' := 424) rfl ?_
  refine WP.icmpLe at_424 (tgt := 431) (by decide) (pc' := 427) rfl (fun c424 => ?_) (fun c424 => ?_)
  · exfalso; omega
  refine WP.iconst at_427 (z := (1 : Int32)) rfl (pc' := 428) rfl ?_
  refine WP.goto at_428 (pc' := 432) (by decide) ?_
  refine WP.lload at_432 rfl (pc' := 434) rfl ?_
  refine WP.lload at_434 rfl (pc' := 436) rfl ?_
  refine WP.callS (y := (⟨"com/example/singlet/singlet/network/DomainFirstAtLeastPinLaw", "below", "(ZJJ)I"⟩ : MethodName)) (By := B1) (as := [(.int (1 : Int32)), (.long v2), (.long bd)]) (rest := [(.int (c0 + c1))]) at_436 (w3 hw) (w4 hw) (w5 hw) (w6 hw) (by decide) (bel_met hw (1 : Int32) v2 bd) pd_1 rfl rfl rfl (by decide) (Nat.le_of_ble_eq_true rfl) (by decide) (by decide) (pc' := 439) rfl ?_
  rintro _ _ ⟨rfl, c2, rfl, hc2⟩
  show WP _ _ _ _ _ _ _ _ _ _ [(.int c2), (.int (c0 + c1))]
  refine WP.iadd at_439 (pc' := 440) rfl ?_
  refine WP.iload at_440 rfl (pc' := 442) rfl ?_
  refine WP.iconst at_442 (z := (3 : Int32)) rfl (pc' := 443) rfl ?_
  refine WP.icmpLe at_443 (tgt := 450) (by decide) (pc' := 446) rfl (fun c443 => ?_) (fun c443 => ?_)
  · exfalso; omega
  refine WP.iconst at_446 (z := (1 : Int32)) rfl (pc' := 447) rfl ?_
  refine WP.goto at_447 (pc' := 451) (by decide) ?_
  refine WP.lload at_451 rfl (pc' := 453) rfl ?_
  refine WP.lload at_453 rfl (pc' := 455) rfl ?_
  refine WP.callS (y := (⟨"com/example/singlet/singlet/network/DomainFirstAtLeastPinLaw", "below", "(ZJJ)I"⟩ : MethodName)) (By := B1) (as := [(.int (1 : Int32)), (.long v3), (.long bd)]) (rest := [(.int ((c0 + c1) + c2))]) at_455 (w3 hw) (w4 hw) (w5 hw) (w6 hw) (by decide) (bel_met hw (1 : Int32) v3 bd) pd_1 rfl rfl rfl (by decide) (Nat.le_of_ble_eq_true rfl) (by decide) (by decide) (pc' := 458) rfl ?_
  rintro _ _ ⟨rfl, c3, rfl, hc3⟩
  show WP _ _ _ _ _ _ _ _ _ _ [(.int c3), (.int ((c0 + c1) + c2))]
  refine WP.iadd at_458 (pc' := 459) rfl ?_
  obtain ⟨ex, e_ex⟩ : ∃ z, z = (((c0 + c1) + c2) + c3) := ⟨_, rfl⟩
  rw [← e_ex]
  refine WP.istore at_459 (pc' := 461) rfl (ls' := #[.val (.int a), .val (.int p), .val (.int q), .val (.int r), .val (.long b), .second, .val (.int mode), .val (.int (4 : Int32)), .val (.int near), .val (.int small), .val (.int k), .val (.long g1), .second, .val (.long g2), .second, .val (.long g3), .second, .val (.long v0), .second, .val (.long v1), .second, .val (.long v2), .second, .val (.long v3), .second, .val (.long v3), .second, .val (.ref b1), .val (.int kk), .val (.long vk), .second, .val (.long bd), .second, .val (.int ex), .unset]) rfl ?_
  have f1 : (c0 + c1).toInt = c0.toInt + c1.toInt := by rw [own_iadd] <;> omega
  have f2 : (c0 + c1 + c2).toInt = c0.toInt + c1.toInt + c2.toInt := by rw [own_iadd] <;> omega
  have f3 : ex.toInt = c0.toInt + c1.toInt + c2.toInt + c3.toInt := by rw [e_ex, own_iadd] <;> omega
  clear f1 f2
  refine WP.newobj (lay := L_DM) (vs := [.null, .null, .null, .null, .null, (.int 0), (.int 0), .null, (.int 0)]) at_461 (w7 hw) (w8 hw) (w9 hw) (lay_DM hw) rfl (by decide) (by decide) (pc' := 464) rfl ?_
  intro d h5 eb_d g_d K6 O_d
  have lt_b1_d : b1 < d := by rw [eb_d]; exact A_b1.lt
  replace E_b1 := E_b1.keep K6
  replace A_b1 := A_b1.keep K6 own_nil
  refine WP.dup at_464 rfl (pc' := 465) rfl ?_
  refine WP.aload at_465 rfl rfl (pc' := 467) rfl ?_
  refine WP.callI (a := d) (y := (⟨"com/example/singlet/singlet/network/Domain", "<init>", "([I)V"⟩ : MethodName)) (By := B2) (as := [(.ref b1)]) (rest := [(.ref d)]) at_467 (w10 hw) (w11 hw) (w9 hw) (w12 hw) rfl rfl (by decide) (c1_4 hw d b1 y0 y1 y2 y3 g_d O_d A_b1 E_b1 ⟨by omega, by omega, by omega⟩ (by first | assumption | exact Ne.symm (by assumption) | exact Nat.ne_of_lt (by assumption) | exact Nat.ne_of_gt (by assumption))) pd_2 rfl rfl rfl (by decide) (Nat.le_of_ble_eq_true rfl) (by decide) (by decide) (pc' := 470) rfl ?_
  rintro _ h7 ⟨rfl, va, z1, z2, z3, z4, z5, z6, z7, z8, O_n, A_va⟩
  replace O_d := O_n
  show WP _ _ _ _ _ _ _ _ _ _ [(.ref d)]
  refine WP.astore at_470 (pc' := 472) rfl rfl (ls' := #[.val (.int a), .val (.int p), .val (.int q), .val (.int r), .val (.long b), .second, .val (.int mode), .val (.int (4 : Int32)), .val (.int near), .val (.int small), .val (.int k), .val (.long g1), .second, .val (.long g2), .second, .val (.long g3), .second, .val (.long v0), .second, .val (.long v1), .second, .val (.long v2), .second, .val (.long v3), .second, .val (.long v3), .second, .val (.ref b1), .val (.int kk), .val (.long vk), .second, .val (.long bd), .second, .val (.int ex), .val (.ref d)]) rfl ?_
  refine WP.aload at_472 rfl rfl (pc' := 474) rfl ?_
  refine WP.lload at_474 rfl (pc' := 476) rfl ?_
  refine WP.callV (a := d) (z := (⟨"com/example/singlet/singlet/network/Domain", "firstAtLeast", "(J)I"⟩ : MethodName)) (Cl := "com/example/singlet/singlet/network/Domain") (y := (⟨"com/example/singlet/singlet/network/Domain", "firstAtLeast", "(J)I"⟩ : MethodName)) (By := B5) (as := [(.long bd)]) (rest := []) at_476 (w47 hw) (w48 hw) (w50 hw) (w49 hw) (w9 hw) (w51 hw) rfl rfl (by decide) O_d.1 (fal_4 hw d va bd y0 y1 y2 y3 z1 z2 z3 z4 z5 z6 z7 z8 O_d A_va ⟨by omega, by omega, by omega⟩) pd_3 rfl rfl rfl (by decide) (Nat.le_of_ble_eq_true rfl) (by decide) (by decide) (pc' := 479) rfl ?_
  rintro _ _ ⟨rfl, fr, rfl, hf1, hf2, hf10, hf11, hf12, hf13⟩
  show WP _ _ _ _ _ _ _ _ _ _ [(.int fr)]
  refine WP.iload at_479 rfl (pc' := 481) rfl ?_
  refine WP.icmpNe at_481 (tgt := 488) (by decide) (pc' := 484) rfl (fun c481 => ?_) (fun c481 => ?_)
  ·
    refine WP.iconst at_488 (z := (0 : Int32)) rfl (pc' := 489) rfl ?_
    exact WP.retN at_489 (t := .boolean) rfl (by simp) (by decide) (by decide) (by exfalso; omega)
  refine WP.iconst at_484 (z := (1 : Int32)) rfl (pc' := 485) rfl ?_
  refine WP.goto at_485 (pc' := 489) (by decide) ?_
  exact WP.retN at_489 (t := .boolean) rfl (by simp) (by decide) (by decide) own_q1
theorem law_144_4 {l : Launch} {Z : State} {a0 : Array Value} (hw : HW Z a0) {n0 : Nat} {h : Heap} (a p q r : Int32) (b : Int64) (mode near small k : Int32) (g1 g2 g3 v0 v1 v2 v3 : Int64) (hv : v0.toInt < v1.toInt ∧ v1.toInt < v2.toInt ∧ v2.toInt < v3.toInt) (hr : -2147483648 ≤ v0.toInt ∧ v0.toInt ≤ 2147483647) : WP l B0 Z n0 (fun v h' => v = some (.int 1)) h 0 0 144 #[.val (.int a), .val (.int p), .val (.int q), .val (.int r), .val (.long b), .second, .val (.int mode), .val (.int (4 : Int32)), .val (.int near), .val (.int small), .val (.int k), .val (.long g1), .second, .val (.long g2), .second, .val (.long g3), .second, .val (.long v0), .second, .val (.long v1), .second, .val (.long v2), .second, .val (.long v3), .second, .unset, .unset, .unset, .unset, .unset, .unset, .unset, .unset, .unset, .unset] [] := by
  have k32_0 : (0 : Int32).toInt = 0 := by decide
  have k32_1 : (1 : Int32).toInt = 1 := by decide
  have k32_2 : (2 : Int32).toInt = 2 := by decide
  have k32_3 : (3 : Int32).toInt = 3 := by decide
  have k32_4 : (4 : Int32).toInt = 4 := by decide
  have k64_3 : (3 : Int64).toInt = 3 := by decide
  have k64_2147483647 : (2147483647 : Int64).toInt = 2147483647 := by decide
  refine WP.iload at_144 rfl (pc' := 146) rfl ?_
  refine WP.iconst at_146 (z := (1 : Int32)) rfl (pc' := 147) rfl ?_
  refine WP.icmpGt at_147 (tgt := 155) (by decide) (pc' := 150) rfl (fun c147 => ?_) (fun c147 => ?_)
  ·
    refine WP.iload at_155 rfl (pc' := 157) rfl ?_
    refine WP.iconst at_157 (z := (2 : Int32)) rfl (pc' := 158) rfl ?_
    refine WP.icmpNe at_158 (tgt := 166) (by decide) (pc' := 161) rfl (fun c158 => ?_) (fun c158 => ?_)
    ·
      refine WP.iload at_166 rfl (pc' := 168) rfl ?_
      refine WP.iconst at_168 (z := (3 : Int32)) rfl (pc' := 169) rfl ?_
      refine WP.icmpNe at_169 (tgt := 177) (by decide) (pc' := 172) rfl (fun c169 => ?_) (fun c169 => ?_)
      ·
        refine WP.lload at_177 rfl (pc' := 179) rfl ?_
        refine WP.lstore at_179 (pc' := 181) rfl (ls' := #[.val (.int a), .val (.int p), .val (.int q), .val (.int r), .val (.long b), .second, .val (.int mode), .val (.int (4 : Int32)), .val (.int near), .val (.int small), .val (.int k), .val (.long g1), .second, .val (.long g2), .second, .val (.long g3), .second, .val (.long v0), .second, .val (.long v1), .second, .val (.long v2), .second, .val (.long v3), .second, .val (.long v3), .second, .unset, .unset, .unset, .unset, .unset, .unset, .unset, .unset]) rfl ?_
        refine WP.lload at_181 rfl (pc' := 183) rfl ?_
        refine WP.ldc2J at_183 (w1 hw) (pc' := 186) rfl ?_
        refine WP.lcmpLe at_186 rfl at_187 (tgt := 192) (by decide) (pc' := 190) rfl (fun c186 => ?_) (fun c186 => ?_)
        ·
          have hy0 : v0.toInt32.toInt = v0.toInt := by have q1 := c_l2i v0; have q2 := own_r32 v0.toInt32; omega
          have hy1 : v1.toInt32.toInt = v1.toInt := by have q1 := c_l2i v1; have q2 := own_r32 v1.toInt32; omega
          have hy2 : v2.toInt32.toInt = v2.toInt := by have q1 := c_l2i v2; have q2 := own_r32 v2.toInt32; omega
          have hy3 : v3.toInt32.toInt = v3.toInt := by have q1 := c_l2i v3; have q2 := own_r32 v3.toInt32; omega
          refine WP.iload at_192 rfl (pc' := 194) rfl ?_
          refine WP.ifNe at_194 (tgt := 205) (by decide) (pc' := 197) rfl (fun c194 => ?_) (fun c194 => ?_)
          ·
            refine WP.iload at_205 rfl (pc' := 207) rfl ?_
            refine WP.iconst at_207 (z := (1 : Int32)) rfl (pc' := 208) rfl ?_
            refine WP.icmpNe at_208 (tgt := 225) (by decide) (pc' := 211) rfl (fun c208 => ?_) (fun c208 => ?_)
            ·
              refine WP.iload at_225 rfl (pc' := 227) rfl ?_
              refine WP.iconst at_227 (z := (2 : Int32)) rfl (pc' := 228) rfl ?_
              refine WP.icmpNe at_228 (tgt := 251) (by decide) (pc' := 231) rfl (fun c228 => ?_) (fun c228 => ?_)
              ·
                refine WP.iload at_251 rfl (pc' := 253) rfl ?_
                refine WP.iconst at_253 (z := (3 : Int32)) rfl (pc' := 254) rfl ?_
                refine WP.icmpNe at_254 (tgt := 283) (by decide) (pc' := 257) rfl (fun c254 => ?_) (fun c254 => ?_)
                ·
                  refine WP.iconst at_283 (z := (4 : Int32)) rfl (pc' := 284) rfl ?_
                  refine WP.newarrE at_284 (w2 hw) (k := 4) rfl 4 (by decide) (by decide) (by decide) (by decide) (ad := "[I") (by decide) (pc' := 286) rfl ?_
                  intro b1 h1 eb_b1 g_b1 K2 A_b1 E_b1
                  replace A_b1 : Av Z h1 b1 .int [.int 0, .int 0, .int 0, .int 0] := A_b1
                  refine WP.dup at_286 rfl (pc' := 287) rfl ?_
                  refine WP.iconst at_287 (z := (0 : Int32)) rfl (pc' := 288) rfl ?_
                  refine WP.lload at_288 rfl (pc' := 290) rfl ?_
                  refine WP.l2i at_290 (pc' := 291) rfl ?_
                  refine WP.iastore 0 at_291 A_b1 rfl (Nat.le_of_ble_eq_true rfl) g_b1 (pc' := 292) rfl ?_
                  intro h3 K4 A_n
                  replace E_b1 := E_b1.keep K4
                  replace A_b1 : Av Z h3 b1 .int [(.int v0.toInt32), (.int 0), (.int 0), (.int 0)] := A_n
                  clear A_n
                  refine WP.dup at_292 rfl (pc' := 293) rfl ?_
                  refine WP.iconst at_293 (z := (1 : Int32)) rfl (pc' := 294) rfl ?_
                  refine WP.lload at_294 rfl (pc' := 296) rfl ?_
                  refine WP.l2i at_296 (pc' := 297) rfl ?_
                  refine WP.iastore 1 at_297 A_b1 rfl (Nat.le_of_ble_eq_true rfl) g_b1 (pc' := 298) rfl ?_
                  intro h5 K6 A_n
                  replace E_b1 := E_b1.keep K6
                  replace A_b1 : Av Z h5 b1 .int [(.int v0.toInt32), (.int v1.toInt32), (.int 0), (.int 0)] := A_n
                  clear A_n
                  refine WP.dup at_298 rfl (pc' := 299) rfl ?_
                  refine WP.iconst at_299 (z := (2 : Int32)) rfl (pc' := 300) rfl ?_
                  refine WP.lload at_300 rfl (pc' := 302) rfl ?_
                  refine WP.l2i at_302 (pc' := 303) rfl ?_
                  refine WP.iastore 2 at_303 A_b1 rfl (Nat.le_of_ble_eq_true rfl) g_b1 (pc' := 304) rfl ?_
                  intro h7 K8 A_n
                  replace E_b1 := E_b1.keep K8
                  replace A_b1 : Av Z h7 b1 .int [(.int v0.toInt32), (.int v1.toInt32), (.int v2.toInt32), (.int 0)] := A_n
                  clear A_n
                  refine WP.dup at_304 rfl (pc' := 305) rfl ?_
                  refine WP.iconst at_305 (z := (3 : Int32)) rfl (pc' := 306) rfl ?_
                  refine WP.lload at_306 rfl (pc' := 308) rfl ?_
                  refine WP.l2i at_308 (pc' := 309) rfl ?_
                  refine WP.iastore 3 at_309 A_b1 rfl (Nat.le_of_ble_eq_true rfl) g_b1 (pc' := 310) rfl ?_
                  intro h9 K10 A_n
                  replace E_b1 := E_b1.keep K10
                  replace A_b1 : Av Z h9 b1 .int [(.int v0.toInt32), (.int v1.toInt32), (.int v2.toInt32), (.int v3.toInt32)] := A_n
                  clear A_n
                  refine WP.astore at_310 (pc' := 312) rfl rfl (ls' := #[.val (.int a), .val (.int p), .val (.int q), .val (.int r), .val (.long b), .second, .val (.int mode), .val (.int (4 : Int32)), .val (.int near), .val (.int small), .val (.int k), .val (.long g1), .second, .val (.long g2), .second, .val (.long g3), .second, .val (.long v0), .second, .val (.long v1), .second, .val (.long v2), .second, .val (.long v3), .second, .val (.long v3), .second, .val (.ref b1), .unset, .unset, .unset, .unset, .unset, .unset, .unset]) rfl ?_
                  refine WP.iload at_312 rfl (pc' := 314) rfl ?_
                  refine WP.ifNe at_314 (tgt := 321) (by decide) (pc' := 317) rfl (fun c314 => ?_) (fun c314 => ?_)
                  ·
                    refine WP.iload at_321 rfl (pc' := 323) rfl ?_
                    refine WP.iload at_323 rfl (pc' := 325) rfl ?_
                    refine WP.irem at_325 (by decide) (pc' := 326) rfl ?_
                    obtain ⟨kk, e_kk⟩ : ∃ z, z = (k % (4 : Int32)) := ⟨_, rfl⟩
                    rw [← e_kk]
                    refine WP.istore at_326 (pc' := 328) rfl (ls' := #[.val (.int a), .val (.int p), .val (.int q), .val (.int r), .val (.long b), .second, .val (.int mode), .val (.int (4 : Int32)), .val (.int near), .val (.int small), .val (.int k), .val (.long g1), .second, .val (.long g2), .second, .val (.long g3), .second, .val (.long v0), .second, .val (.long v1), .second, .val (.long v2), .second, .val (.long v3), .second, .val (.long v3), .second, .val (.ref b1), .val (.int kk), .unset, .unset, .unset, .unset, .unset, .unset]) rfl ?_
                    refine WP.iload at_328 rfl (pc' := 330) rfl ?_
                    refine WP.ifNe at_330 (tgt := 338) (by decide) (pc' := 333) rfl (fun c330 => ?_) (fun c330 => ?_)
                    ·
                      refine WP.iload at_338 rfl (pc' := 340) rfl ?_
                      refine WP.iconst at_340 (z := (1 : Int32)) rfl (pc' := 341) rfl ?_
                      refine WP.icmpNe at_341 (tgt := 349) (by decide) (pc' := 344) rfl (fun c341 => ?_) (fun c341 => ?_)
                      ·
                        refine WP.iload at_349 rfl (pc' := 351) rfl ?_
                        refine WP.iconst at_351 (z := (2 : Int32)) rfl (pc' := 352) rfl ?_
                        refine WP.icmpNe at_352 (tgt := 360) (by decide) (pc' := 355) rfl (fun c352 => ?_) (fun c352 => ?_)
                        ·
                          refine WP.lload at_360 rfl (pc' := 362) rfl ?_
                          refine WP.lstore at_362 (pc' := 364) rfl (ls' := #[.val (.int a), .val (.int p), .val (.int q), .val (.int r), .val (.long b), .second, .val (.int mode), .val (.int (4 : Int32)), .val (.int near), .val (.int small), .val (.int k), .val (.long g1), .second, .val (.long g2), .second, .val (.long g3), .second, .val (.long v0), .second, .val (.long v1), .second, .val (.long v2), .second, .val (.long v3), .second, .val (.long v3), .second, .val (.ref b1), .val (.int kk), .val (.long v3), .second, .unset, .unset, .unset, .unset]) rfl ?_
                          refine WP.iload at_364 rfl (pc' := 366) rfl ?_
                          refine WP.ifEq at_366 (tgt := 381) (by decide) (pc' := 369) rfl (fun c366 => ?_) (fun c366 => ?_)
                          ·
                            refine WP.lload at_381 rfl (pc' := 383) rfl ?_
                            refine WP.lstore at_383 (pc' := 385) rfl (ls' := #[.val (.int a), .val (.int p), .val (.int q), .val (.int r), .val (.long b), .second, .val (.int mode), .val (.int (4 : Int32)), .val (.int near), .val (.int small), .val (.int k), .val (.long g1), .second, .val (.long g2), .second, .val (.long g3), .second, .val (.long v0), .second, .val (.long v1), .second, .val (.long v2), .second, .val (.long v3), .second, .val (.long v3), .second, .val (.ref b1), .val (.int kk), .val (.long v3), .second, .val (.long b), .second, .unset, .unset]) rfl ?_
                            exact law_385_4 hw a p q r b mode near small k g1 g2 g3 v0 v1 v2 v3 _ _ _ b1 v0.toInt32 v1.toInt32 v2.toInt32 v3.toInt32 A_b1 E_b1 hv hy0 hy1 hy2 hy3
                          refine WP.lload at_369 rfl (pc' := 371) rfl ?_
                          refine WP.lload at_371 rfl (pc' := 373) rfl ?_
                          refine WP.ldc2J at_373 (w52 hw) (pc' := 376) rfl ?_
                          refine WP.lrem at_376 (by decide) (pc' := 377) rfl ?_
                          refine WP.ladd at_377 (pc' := 378) rfl ?_
                          refine WP.goto at_378 (pc' := 383) (by decide) ?_
                          obtain ⟨bd, e_bd⟩ : ∃ z, z = (v3 + (b - b / (3 : Int64) * (3 : Int64))) := ⟨_, rfl⟩
                          rw [← e_bd]
                          refine WP.lstore at_383 (pc' := 385) rfl (ls' := #[.val (.int a), .val (.int p), .val (.int q), .val (.int r), .val (.long b), .second, .val (.int mode), .val (.int (4 : Int32)), .val (.int near), .val (.int small), .val (.int k), .val (.long g1), .second, .val (.long g2), .second, .val (.long g3), .second, .val (.long v0), .second, .val (.long v1), .second, .val (.long v2), .second, .val (.long v3), .second, .val (.long v3), .second, .val (.ref b1), .val (.int kk), .val (.long v3), .second, .val (.long bd), .second, .unset, .unset]) rfl ?_
                          exact law_385_4 hw a p q r b mode near small k g1 g2 g3 v0 v1 v2 v3 _ _ _ b1 v0.toInt32 v1.toInt32 v2.toInt32 v3.toInt32 A_b1 E_b1 hv hy0 hy1 hy2 hy3
                        refine WP.lload at_355 rfl (pc' := 357) rfl ?_
                        refine WP.goto at_357 (pc' := 362) (by decide) ?_
                        refine WP.lstore at_362 (pc' := 364) rfl (ls' := #[.val (.int a), .val (.int p), .val (.int q), .val (.int r), .val (.long b), .second, .val (.int mode), .val (.int (4 : Int32)), .val (.int near), .val (.int small), .val (.int k), .val (.long g1), .second, .val (.long g2), .second, .val (.long g3), .second, .val (.long v0), .second, .val (.long v1), .second, .val (.long v2), .second, .val (.long v3), .second, .val (.long v3), .second, .val (.ref b1), .val (.int kk), .val (.long v2), .second, .unset, .unset, .unset, .unset]) rfl ?_
                        refine WP.iload at_364 rfl (pc' := 366) rfl ?_
                        refine WP.ifEq at_366 (tgt := 381) (by decide) (pc' := 369) rfl (fun c366 => ?_) (fun c366 => ?_)
                        ·
                          refine WP.lload at_381 rfl (pc' := 383) rfl ?_
                          refine WP.lstore at_383 (pc' := 385) rfl (ls' := #[.val (.int a), .val (.int p), .val (.int q), .val (.int r), .val (.long b), .second, .val (.int mode), .val (.int (4 : Int32)), .val (.int near), .val (.int small), .val (.int k), .val (.long g1), .second, .val (.long g2), .second, .val (.long g3), .second, .val (.long v0), .second, .val (.long v1), .second, .val (.long v2), .second, .val (.long v3), .second, .val (.long v3), .second, .val (.ref b1), .val (.int kk), .val (.long v2), .second, .val (.long b), .second, .unset, .unset]) rfl ?_
                          exact law_385_4 hw a p q r b mode near small k g1 g2 g3 v0 v1 v2 v3 _ _ _ b1 v0.toInt32 v1.toInt32 v2.toInt32 v3.toInt32 A_b1 E_b1 hv hy0 hy1 hy2 hy3
                        refine WP.lload at_369 rfl (pc' := 371) rfl ?_
                        refine WP.lload at_371 rfl (pc' := 373) rfl ?_
                        refine WP.ldc2J at_373 (w52 hw) (pc' := 376) rfl ?_
                        refine WP.lrem at_376 (by decide) (pc' := 377) rfl ?_
                        refine WP.ladd at_377 (pc' := 378) rfl ?_
                        refine WP.goto at_378 (pc' := 383) (by decide) ?_
                        obtain ⟨bd, e_bd⟩ : ∃ z, z = (v2 + (b - b / (3 : Int64) * (3 : Int64))) := ⟨_, rfl⟩
                        rw [← e_bd]
                        refine WP.lstore at_383 (pc' := 385) rfl (ls' := #[.val (.int a), .val (.int p), .val (.int q), .val (.int r), .val (.long b), .second, .val (.int mode), .val (.int (4 : Int32)), .val (.int near), .val (.int small), .val (.int k), .val (.long g1), .second, .val (.long g2), .second, .val (.long g3), .second, .val (.long v0), .second, .val (.long v1), .second, .val (.long v2), .second, .val (.long v3), .second, .val (.long v3), .second, .val (.ref b1), .val (.int kk), .val (.long v2), .second, .val (.long bd), .second, .unset, .unset]) rfl ?_
                        exact law_385_4 hw a p q r b mode near small k g1 g2 g3 v0 v1 v2 v3 _ _ _ b1 v0.toInt32 v1.toInt32 v2.toInt32 v3.toInt32 A_b1 E_b1 hv hy0 hy1 hy2 hy3
                      refine WP.lload at_344 rfl (pc' := 346) rfl ?_
                      refine WP.goto at_346 (pc' := 362) (by decide) ?_
                      refine WP.lstore at_362 (pc' := 364) rfl (ls' := #[.val (.int a), .val (.int p), .val (.int q), .val (.int r), .val (.long b), .second, .val (.int mode), .val (.int (4 : Int32)), .val (.int near), .val (.int small), .val (.int k), .val (.long g1), .second, .val (.long g2), .second, .val (.long g3), .second, .val (.long v0), .second, .val (.long v1), .second, .val (.long v2), .second, .val (.long v3), .second, .val (.long v3), .second, .val (.ref b1), .val (.int kk), .val (.long v1), .second, .unset, .unset, .unset, .unset]) rfl ?_
                      refine WP.iload at_364 rfl (pc' := 366) rfl ?_
                      refine WP.ifEq at_366 (tgt := 381) (by decide) (pc' := 369) rfl (fun c366 => ?_) (fun c366 => ?_)
                      ·
                        refine WP.lload at_381 rfl (pc' := 383) rfl ?_
                        refine WP.lstore at_383 (pc' := 385) rfl (ls' := #[.val (.int a), .val (.int p), .val (.int q), .val (.int r), .val (.long b), .second, .val (.int mode), .val (.int (4 : Int32)), .val (.int near), .val (.int small), .val (.int k), .val (.long g1), .second, .val (.long g2), .second, .val (.long g3), .second, .val (.long v0), .second, .val (.long v1), .second, .val (.long v2), .second, .val (.long v3), .second, .val (.long v3), .second, .val (.ref b1), .val (.int kk), .val (.long v1), .second, .val (.long b), .second, .unset, .unset]) rfl ?_
                        exact law_385_4 hw a p q r b mode near small k g1 g2 g3 v0 v1 v2 v3 _ _ _ b1 v0.toInt32 v1.toInt32 v2.toInt32 v3.toInt32 A_b1 E_b1 hv hy0 hy1 hy2 hy3
                      refine WP.lload at_369 rfl (pc' := 371) rfl ?_
                      refine WP.lload at_371 rfl (pc' := 373) rfl ?_
                      refine WP.ldc2J at_373 (w52 hw) (pc' := 376) rfl ?_
                      refine WP.lrem at_376 (by decide) (pc' := 377) rfl ?_
                      refine WP.ladd at_377 (pc' := 378) rfl ?_
                      refine WP.goto at_378 (pc' := 383) (by decide) ?_
                      obtain ⟨bd, e_bd⟩ : ∃ z, z = (v1 + (b - b / (3 : Int64) * (3 : Int64))) := ⟨_, rfl⟩
                      rw [← e_bd]
                      refine WP.lstore at_383 (pc' := 385) rfl (ls' := #[.val (.int a), .val (.int p), .val (.int q), .val (.int r), .val (.long b), .second, .val (.int mode), .val (.int (4 : Int32)), .val (.int near), .val (.int small), .val (.int k), .val (.long g1), .second, .val (.long g2), .second, .val (.long g3), .second, .val (.long v0), .second, .val (.long v1), .second, .val (.long v2), .second, .val (.long v3), .second, .val (.long v3), .second, .val (.ref b1), .val (.int kk), .val (.long v1), .second, .val (.long bd), .second, .unset, .unset]) rfl ?_
                      exact law_385_4 hw a p q r b mode near small k g1 g2 g3 v0 v1 v2 v3 _ _ _ b1 v0.toInt32 v1.toInt32 v2.toInt32 v3.toInt32 A_b1 E_b1 hv hy0 hy1 hy2 hy3
                    refine WP.lload at_333 rfl (pc' := 335) rfl ?_
                    refine WP.goto at_335 (pc' := 362) (by decide) ?_
                    refine WP.lstore at_362 (pc' := 364) rfl (ls' := #[.val (.int a), .val (.int p), .val (.int q), .val (.int r), .val (.long b), .second, .val (.int mode), .val (.int (4 : Int32)), .val (.int near), .val (.int small), .val (.int k), .val (.long g1), .second, .val (.long g2), .second, .val (.long g3), .second, .val (.long v0), .second, .val (.long v1), .second, .val (.long v2), .second, .val (.long v3), .second, .val (.long v3), .second, .val (.ref b1), .val (.int kk), .val (.long v0), .second, .unset, .unset, .unset, .unset]) rfl ?_
                    refine WP.iload at_364 rfl (pc' := 366) rfl ?_
                    refine WP.ifEq at_366 (tgt := 381) (by decide) (pc' := 369) rfl (fun c366 => ?_) (fun c366 => ?_)
                    ·
                      refine WP.lload at_381 rfl (pc' := 383) rfl ?_
                      refine WP.lstore at_383 (pc' := 385) rfl (ls' := #[.val (.int a), .val (.int p), .val (.int q), .val (.int r), .val (.long b), .second, .val (.int mode), .val (.int (4 : Int32)), .val (.int near), .val (.int small), .val (.int k), .val (.long g1), .second, .val (.long g2), .second, .val (.long g3), .second, .val (.long v0), .second, .val (.long v1), .second, .val (.long v2), .second, .val (.long v3), .second, .val (.long v3), .second, .val (.ref b1), .val (.int kk), .val (.long v0), .second, .val (.long b), .second, .unset, .unset]) rfl ?_
                      exact law_385_4 hw a p q r b mode near small k g1 g2 g3 v0 v1 v2 v3 _ _ _ b1 v0.toInt32 v1.toInt32 v2.toInt32 v3.toInt32 A_b1 E_b1 hv hy0 hy1 hy2 hy3
                    refine WP.lload at_369 rfl (pc' := 371) rfl ?_
                    refine WP.lload at_371 rfl (pc' := 373) rfl ?_
                    refine WP.ldc2J at_373 (w52 hw) (pc' := 376) rfl ?_
                    refine WP.lrem at_376 (by decide) (pc' := 377) rfl ?_
                    refine WP.ladd at_377 (pc' := 378) rfl ?_
                    refine WP.goto at_378 (pc' := 383) (by decide) ?_
                    obtain ⟨bd, e_bd⟩ : ∃ z, z = (v0 + (b - b / (3 : Int64) * (3 : Int64))) := ⟨_, rfl⟩
                    rw [← e_bd]
                    refine WP.lstore at_383 (pc' := 385) rfl (ls' := #[.val (.int a), .val (.int p), .val (.int q), .val (.int r), .val (.long b), .second, .val (.int mode), .val (.int (4 : Int32)), .val (.int near), .val (.int small), .val (.int k), .val (.long g1), .second, .val (.long g2), .second, .val (.long g3), .second, .val (.long v0), .second, .val (.long v1), .second, .val (.long v2), .second, .val (.long v3), .second, .val (.long v3), .second, .val (.ref b1), .val (.int kk), .val (.long v0), .second, .val (.long bd), .second, .unset, .unset]) rfl ?_
                    exact law_385_4 hw a p q r b mode near small k g1 g2 g3 v0 v1 v2 v3 _ _ _ b1 v0.toInt32 v1.toInt32 v2.toInt32 v3.toInt32 A_b1 E_b1 hv hy0 hy1 hy2 hy3
                  exfalso; omega
                exfalso; omega
              exfalso; omega
            exfalso; omega
          exfalso; omega
        refine WP.iconst at_190 (z := (1 : Int32)) rfl (pc' := 191) rfl ?_
        exact WP.retN at_191 (t := .boolean) rfl (by simp) (by decide) (by decide) own_q1
      exfalso; omega
    exfalso; omega
  exfalso; omega
theorem law_119 {l : Launch} {Z : State} {a0 : Array Value} (hw : HW Z a0) {n0 : Nat} {h : Heap} (a p q r : Int32) (b : Int64) (mode near small k n : Int32) (g1 g2 g3 : Int64) (hn : 0 ≤ n.toInt ∧ n.toInt ≤ 4) (h1 : 1 ≤ g1.toInt ∧ g1.toInt ≤ 2147483648) (h2 : 1 ≤ g2.toInt ∧ g2.toInt ≤ 2147483648) (h3 : 1 ≤ g3.toInt ∧ g3.toInt ≤ 2147483648) : WP l B0 Z n0 (fun v h' => v = some (.int 1)) h 0 0 119 #[.val (.int a), .val (.int p), .val (.int q), .val (.int r), .val (.long b), .second, .val (.int mode), .val (.int n), .val (.int near), .val (.int small), .val (.int k), .val (.long g1), .second, .val (.long g2), .second, .val (.long g3), .second, .unset, .unset, .unset, .unset, .unset, .unset, .unset, .unset, .unset, .unset, .unset, .unset, .unset, .unset, .unset, .unset, .unset, .unset] [] := by
  have k32_0 : (0 : Int32).toInt = 0 := by decide
  have k32_1 : (1 : Int32).toInt = 1 := by decide
  have k32_2 : (2 : Int32).toInt = 2 := by decide
  have k32_3 : (3 : Int32).toInt = 3 := by decide
  have k32_4 : (4 : Int32).toInt = 4 := by decide
  refine WP.iloadN at_119 rfl (pc' := 120) rfl ?_
  refine WP.i2l at_120 (pc' := 121) rfl ?_
  obtain ⟨v0, e_v0⟩ : ∃ z, z = a.toInt64 := ⟨_, rfl⟩
  rw [← e_v0]
  refine WP.lstore at_121 (pc' := 123) rfl (ls' := #[.val (.int a), .val (.int p), .val (.int q), .val (.int r), .val (.long b), .second, .val (.int mode), .val (.int n), .val (.int near), .val (.int small), .val (.int k), .val (.long g1), .second, .val (.long g2), .second, .val (.long g3), .second, .val (.long v0), .second, .unset, .unset, .unset, .unset, .unset, .unset, .unset, .unset, .unset, .unset, .unset, .unset, .unset, .unset, .unset, .unset]) rfl ?_
  have e0 : v0.toInt = a.toInt := by rw [e_v0]; exact c_i2l a
  have ra := own_r32 a
  refine WP.lload at_123 rfl (pc' := 125) rfl ?_
  refine WP.lload at_125 rfl (pc' := 127) rfl ?_
  refine WP.ladd at_127 (pc' := 128) rfl ?_
  obtain ⟨v1, e_v1⟩ : ∃ z, z = (v0 + g1) := ⟨_, rfl⟩
  rw [← e_v1]
  refine WP.lstore at_128 (pc' := 130) rfl (ls' := #[.val (.int a), .val (.int p), .val (.int q), .val (.int r), .val (.long b), .second, .val (.int mode), .val (.int n), .val (.int near), .val (.int small), .val (.int k), .val (.long g1), .second, .val (.long g2), .second, .val (.long g3), .second, .val (.long v0), .second, .val (.long v1), .second, .unset, .unset, .unset, .unset, .unset, .unset, .unset, .unset, .unset, .unset, .unset, .unset, .unset, .unset]) rfl ?_
  have e1 : v1.toInt = v0.toInt + g1.toInt := by rw [e_v1, own_ladd] <;> omega
  refine WP.lload at_130 rfl (pc' := 132) rfl ?_
  refine WP.lload at_132 rfl (pc' := 134) rfl ?_
  refine WP.ladd at_134 (pc' := 135) rfl ?_
  obtain ⟨v2, e_v2⟩ : ∃ z, z = (v1 + g2) := ⟨_, rfl⟩
  rw [← e_v2]
  refine WP.lstore at_135 (pc' := 137) rfl (ls' := #[.val (.int a), .val (.int p), .val (.int q), .val (.int r), .val (.long b), .second, .val (.int mode), .val (.int n), .val (.int near), .val (.int small), .val (.int k), .val (.long g1), .second, .val (.long g2), .second, .val (.long g3), .second, .val (.long v0), .second, .val (.long v1), .second, .val (.long v2), .second, .unset, .unset, .unset, .unset, .unset, .unset, .unset, .unset, .unset, .unset, .unset, .unset]) rfl ?_
  have e2 : v2.toInt = v1.toInt + g2.toInt := by rw [e_v2, own_ladd] <;> omega
  refine WP.lload at_137 rfl (pc' := 139) rfl ?_
  refine WP.lload at_139 rfl (pc' := 141) rfl ?_
  refine WP.ladd at_141 (pc' := 142) rfl ?_
  obtain ⟨v3, e_v3⟩ : ∃ z, z = (v2 + g3) := ⟨_, rfl⟩
  rw [← e_v3]
  refine WP.lstore at_142 (pc' := 144) rfl (ls' := #[.val (.int a), .val (.int p), .val (.int q), .val (.int r), .val (.long b), .second, .val (.int mode), .val (.int n), .val (.int near), .val (.int small), .val (.int k), .val (.long g1), .second, .val (.long g2), .second, .val (.long g3), .second, .val (.long v0), .second, .val (.long v1), .second, .val (.long v2), .second, .val (.long v3), .second, .unset, .unset, .unset, .unset, .unset, .unset, .unset, .unset, .unset, .unset]) rfl ?_
  have e3 : v3.toInt = v2.toInt + g3.toInt := by rw [e_v3, own_ladd] <;> omega
  rcases (by omega : n.toInt = 0 ∨ n.toInt = 1 ∨ n.toInt = 2 ∨ n.toInt = 3 ∨ n.toInt = 4) with hk | hk | hk | hk | hk
  · rw [show n = (0 : Int32) from own_e32 (by rw [hk]; decide)]; exact law_144_0 hw a p q r b mode near small k g1 g2 g3 v0 v1 v2 v3 ⟨by omega, by omega, by omega⟩ ⟨by omega, by omega⟩
  · rw [show n = (1 : Int32) from own_e32 (by rw [hk]; decide)]; exact law_144_1 hw a p q r b mode near small k g1 g2 g3 v0 v1 v2 v3 ⟨by omega, by omega, by omega⟩ ⟨by omega, by omega⟩
  · rw [show n = (2 : Int32) from own_e32 (by rw [hk]; decide)]; exact law_144_2 hw a p q r b mode near small k g1 g2 g3 v0 v1 v2 v3 ⟨by omega, by omega, by omega⟩ ⟨by omega, by omega⟩
  · rw [show n = (3 : Int32) from own_e32 (by rw [hk]; decide)]; exact law_144_3 hw a p q r b mode near small k g1 g2 g3 v0 v1 v2 v3 ⟨by omega, by omega, by omega⟩ ⟨by omega, by omega⟩
  · rw [show n = (4 : Int32) from own_e32 (by rw [hk]; decide)]; exact law_144_4 hw a p q r b mode near small k g1 g2 g3 v0 v1 v2 v3 ⟨by omega, by omega, by omega⟩ ⟨by omega, by omega⟩
theorem law_39_0 {l : Launch} {Z : State} {a0 : Array Value} (hw : HW Z a0) {n0 : Nat} {h : Heap} (a p q r : Int32) (b : Int64) (mode near n : Int32) (hn : 0 ≤ n.toInt ∧ n.toInt ≤ 4) : WP l B0 Z n0 (fun v h' => v = some (.int 1)) h 0 0 39 #[.val (.int a), .val (.int p), .val (.int q), .val (.int r), .val (.long b), .second, .val (.int mode), .val (.int n), .val (.int near), .val (.int (0 : Int32)), .unset, .unset, .unset, .unset, .unset, .unset, .unset, .unset, .unset, .unset, .unset, .unset, .unset, .unset, .unset, .unset, .unset, .unset, .unset, .unset, .unset, .unset, .unset, .unset, .unset] [] := by
  have k32_0 : (0 : Int32).toInt = 0 := by decide
  have k32_2 : (2 : Int32).toInt = 2 := by decide
  have k32_3 : (3 : Int32).toInt = 3 := by decide
  have k64_1 : (1 : Int64).toInt = 1 := by decide
  have k64_2147483647 : (2147483647 : Int64).toInt = 2147483647 := by decide
  refine WP.iload at_39 rfl (pc' := 41) rfl ?_
  refine WP.iconst at_41 (z := (2 : Int32)) rfl (pc' := 42) rfl ?_
  refine WP.iushr at_42 (pc' := 43) rfl ?_
  refine WP.iconst at_43 (z := (3 : Int32)) rfl (pc' := 44) rfl ?_
  refine WP.iand at_44 (pc' := 45) rfl ?_
  obtain ⟨k, e_k⟩ : ∃ z, z = ((ushr mode (2 : Int32)) &&& (3 : Int32)) := ⟨_, rfl⟩
  rw [← e_k]
  refine WP.istore at_45 (pc' := 47) rfl (ls' := #[.val (.int a), .val (.int p), .val (.int q), .val (.int r), .val (.long b), .second, .val (.int mode), .val (.int n), .val (.int near), .val (.int (0 : Int32)), .val (.int k), .unset, .unset, .unset, .unset, .unset, .unset, .unset, .unset, .unset, .unset, .unset, .unset, .unset, .unset, .unset, .unset, .unset, .unset, .unset, .unset, .unset, .unset, .unset, .unset]) rfl ?_
  refine WP.iload at_47 rfl (pc' := 49) rfl ?_
  refine WP.ifEq at_49 (tgt := 61) (by decide) (pc' := 52) rfl (fun c49 => ?_) (fun c49 => ?_)
  ·
    refine WP.lconst1 at_61 (pc' := 62) rfl ?_
    refine WP.iloadN at_62 rfl (pc' := 63) rfl ?_
    refine WP.i2l at_63 (pc' := 64) rfl ?_
    refine WP.ldc2J at_64 (w1 hw) (pc' := 67) rfl ?_
    refine WP.land at_67 (pc' := 68) rfl ?_
    refine WP.ladd at_68 (pc' := 69) rfl ?_
    obtain ⟨g1, e_g1⟩ : ∃ z, z = ((1 : Int64) + (p.toInt64 &&& (2147483647 : Int64))) := ⟨_, rfl⟩
    rw [← e_g1]
    refine WP.lstore at_69 (pc' := 71) rfl (ls' := #[.val (.int a), .val (.int p), .val (.int q), .val (.int r), .val (.long b), .second, .val (.int mode), .val (.int n), .val (.int near), .val (.int (0 : Int32)), .val (.int k), .val (.long g1), .second, .unset, .unset, .unset, .unset, .unset, .unset, .unset, .unset, .unset, .unset, .unset, .unset, .unset, .unset, .unset, .unset, .unset, .unset, .unset, .unset, .unset, .unset]) rfl ?_
    have m_g1 : (p.toInt64 &&& (2147483647 : Int64)).toInt = p.toInt64.toInt % 2147483648 := own_maskL _ _ 31 _ (by decide) (by decide) (by decide)
    have b_g1 : 1 ≤ g1.toInt ∧ g1.toInt ≤ 2147483648 := by rw [e_g1, own_ladd] <;> omega
    refine WP.iload at_71 rfl (pc' := 73) rfl ?_
    refine WP.ifEq at_73 (tgt := 85) (by decide) (pc' := 76) rfl (fun c73 => ?_) (fun c73 => ?_)
    ·
      refine WP.lconst1 at_85 (pc' := 86) rfl ?_
      refine WP.iloadN at_86 rfl (pc' := 87) rfl ?_
      refine WP.i2l at_87 (pc' := 88) rfl ?_
      refine WP.ldc2J at_88 (w1 hw) (pc' := 91) rfl ?_
      refine WP.land at_91 (pc' := 92) rfl ?_
      refine WP.ladd at_92 (pc' := 93) rfl ?_
      obtain ⟨g2, e_g2⟩ : ∃ z, z = ((1 : Int64) + (q.toInt64 &&& (2147483647 : Int64))) := ⟨_, rfl⟩
      rw [← e_g2]
      refine WP.lstore at_93 (pc' := 95) rfl (ls' := #[.val (.int a), .val (.int p), .val (.int q), .val (.int r), .val (.long b), .second, .val (.int mode), .val (.int n), .val (.int near), .val (.int (0 : Int32)), .val (.int k), .val (.long g1), .second, .val (.long g2), .second, .unset, .unset, .unset, .unset, .unset, .unset, .unset, .unset, .unset, .unset, .unset, .unset, .unset, .unset, .unset, .unset, .unset, .unset, .unset, .unset]) rfl ?_
      have m_g2 : (q.toInt64 &&& (2147483647 : Int64)).toInt = q.toInt64.toInt % 2147483648 := own_maskL _ _ 31 _ (by decide) (by decide) (by decide)
      have b_g2 : 1 ≤ g2.toInt ∧ g2.toInt ≤ 2147483648 := by rw [e_g2, own_ladd] <;> omega
      refine WP.iload at_95 rfl (pc' := 97) rfl ?_
      refine WP.ifEq at_97 (tgt := 109) (by decide) (pc' := 100) rfl (fun c97 => ?_) (fun c97 => ?_)
      ·
        refine WP.lconst1 at_109 (pc' := 110) rfl ?_
        refine WP.iloadN at_110 rfl (pc' := 111) rfl ?_
        refine WP.i2l at_111 (pc' := 112) rfl ?_
        refine WP.ldc2J at_112 (w1 hw) (pc' := 115) rfl ?_
        refine WP.land at_115 (pc' := 116) rfl ?_
        refine WP.ladd at_116 (pc' := 117) rfl ?_
        obtain ⟨g3, e_g3⟩ : ∃ z, z = ((1 : Int64) + (r.toInt64 &&& (2147483647 : Int64))) := ⟨_, rfl⟩
        rw [← e_g3]
        refine WP.lstore at_117 (pc' := 119) rfl (ls' := #[.val (.int a), .val (.int p), .val (.int q), .val (.int r), .val (.long b), .second, .val (.int mode), .val (.int n), .val (.int near), .val (.int (0 : Int32)), .val (.int k), .val (.long g1), .second, .val (.long g2), .second, .val (.long g3), .second, .unset, .unset, .unset, .unset, .unset, .unset, .unset, .unset, .unset, .unset, .unset, .unset, .unset, .unset, .unset, .unset, .unset, .unset]) rfl ?_
        have m_g3 : (r.toInt64 &&& (2147483647 : Int64)).toInt = r.toInt64.toInt % 2147483648 := own_maskL _ _ 31 _ (by decide) (by decide) (by decide)
        have b_g3 : 1 ≤ g3.toInt ∧ g3.toInt ≤ 2147483648 := by rw [e_g3, own_ladd] <;> omega
        exact law_119 hw a p q r b mode near (0 : Int32) k n g1 g2 g3 hn b_g1 b_g2 b_g3
      exfalso; omega
    exfalso; omega
  exfalso; omega
theorem law_39_1 {l : Launch} {Z : State} {a0 : Array Value} (hw : HW Z a0) {n0 : Nat} {h : Heap} (a p q r : Int32) (b : Int64) (mode near n : Int32) (hn : 0 ≤ n.toInt ∧ n.toInt ≤ 4) : WP l B0 Z n0 (fun v h' => v = some (.int 1)) h 0 0 39 #[.val (.int a), .val (.int p), .val (.int q), .val (.int r), .val (.long b), .second, .val (.int mode), .val (.int n), .val (.int near), .val (.int (1 : Int32)), .unset, .unset, .unset, .unset, .unset, .unset, .unset, .unset, .unset, .unset, .unset, .unset, .unset, .unset, .unset, .unset, .unset, .unset, .unset, .unset, .unset, .unset, .unset, .unset, .unset] [] := by
  have k32_1 : (1 : Int32).toInt = 1 := by decide
  have k32_2 : (2 : Int32).toInt = 2 := by decide
  have k32_3 : (3 : Int32).toInt = 3 := by decide
  have k64_1 : (1 : Int64).toInt = 1 := by decide
  refine WP.iload at_39 rfl (pc' := 41) rfl ?_
  refine WP.iconst at_41 (z := (2 : Int32)) rfl (pc' := 42) rfl ?_
  refine WP.iushr at_42 (pc' := 43) rfl ?_
  refine WP.iconst at_43 (z := (3 : Int32)) rfl (pc' := 44) rfl ?_
  refine WP.iand at_44 (pc' := 45) rfl ?_
  obtain ⟨k, e_k⟩ : ∃ z, z = ((ushr mode (2 : Int32)) &&& (3 : Int32)) := ⟨_, rfl⟩
  rw [← e_k]
  refine WP.istore at_45 (pc' := 47) rfl (ls' := #[.val (.int a), .val (.int p), .val (.int q), .val (.int r), .val (.long b), .second, .val (.int mode), .val (.int n), .val (.int near), .val (.int (1 : Int32)), .val (.int k), .unset, .unset, .unset, .unset, .unset, .unset, .unset, .unset, .unset, .unset, .unset, .unset, .unset, .unset, .unset, .unset, .unset, .unset, .unset, .unset, .unset, .unset, .unset, .unset]) rfl ?_
  refine WP.iload at_47 rfl (pc' := 49) rfl ?_
  refine WP.ifEq at_49 (tgt := 61) (by decide) (pc' := 52) rfl (fun c49 => ?_) (fun c49 => ?_)
  · exfalso; omega
  refine WP.lconst1 at_52 (pc' := 53) rfl ?_
  refine WP.iloadN at_53 rfl (pc' := 54) rfl ?_
  refine WP.iconst at_54 (z := (3 : Int32)) rfl (pc' := 55) rfl ?_
  refine WP.iand at_55 (pc' := 56) rfl ?_
  refine WP.i2l at_56 (pc' := 57) rfl ?_
  refine WP.ladd at_57 (pc' := 58) rfl ?_
  refine WP.goto at_58 (pc' := 69) (by decide) ?_
  obtain ⟨g1, e_g1⟩ : ∃ z, z = ((1 : Int64) + (p &&& (3 : Int32)).toInt64) := ⟨_, rfl⟩
  rw [← e_g1]
  refine WP.lstore at_69 (pc' := 71) rfl (ls' := #[.val (.int a), .val (.int p), .val (.int q), .val (.int r), .val (.long b), .second, .val (.int mode), .val (.int n), .val (.int near), .val (.int (1 : Int32)), .val (.int k), .val (.long g1), .second, .unset, .unset, .unset, .unset, .unset, .unset, .unset, .unset, .unset, .unset, .unset, .unset, .unset, .unset, .unset, .unset, .unset, .unset, .unset, .unset, .unset, .unset]) rfl ?_
  have m_g1 : (p &&& (3 : Int32)).toInt = p.toInt % 4 := own_mask _ _ 2 _ (by decide) (by decide) (by decide)
  have i_g1 := c_i2l (p &&& (3 : Int32))
  have b_g1 : 1 ≤ g1.toInt ∧ g1.toInt ≤ 2147483648 := by rw [e_g1, own_ladd] <;> omega
  refine WP.iload at_71 rfl (pc' := 73) rfl ?_
  refine WP.ifEq at_73 (tgt := 85) (by decide) (pc' := 76) rfl (fun c73 => ?_) (fun c73 => ?_)
  · exfalso; omega
  refine WP.lconst1 at_76 (pc' := 77) rfl ?_
  refine WP.iloadN at_77 rfl (pc' := 78) rfl ?_
  refine WP.iconst at_78 (z := (3 : Int32)) rfl (pc' := 79) rfl ?_
  refine WP.iand at_79 (pc' := 80) rfl ?_
  refine WP.i2l at_80 (pc' := 81) rfl ?_
  refine WP.ladd at_81 (pc' := 82) rfl ?_
  refine WP.goto at_82 (pc' := 93) (by decide) ?_
  obtain ⟨g2, e_g2⟩ : ∃ z, z = ((1 : Int64) + (q &&& (3 : Int32)).toInt64) := ⟨_, rfl⟩
  rw [← e_g2]
  refine WP.lstore at_93 (pc' := 95) rfl (ls' := #[.val (.int a), .val (.int p), .val (.int q), .val (.int r), .val (.long b), .second, .val (.int mode), .val (.int n), .val (.int near), .val (.int (1 : Int32)), .val (.int k), .val (.long g1), .second, .val (.long g2), .second, .unset, .unset, .unset, .unset, .unset, .unset, .unset, .unset, .unset, .unset, .unset, .unset, .unset, .unset, .unset, .unset, .unset, .unset, .unset, .unset]) rfl ?_
  have m_g2 : (q &&& (3 : Int32)).toInt = q.toInt % 4 := own_mask _ _ 2 _ (by decide) (by decide) (by decide)
  have i_g2 := c_i2l (q &&& (3 : Int32))
  have b_g2 : 1 ≤ g2.toInt ∧ g2.toInt ≤ 2147483648 := by rw [e_g2, own_ladd] <;> omega
  refine WP.iload at_95 rfl (pc' := 97) rfl ?_
  refine WP.ifEq at_97 (tgt := 109) (by decide) (pc' := 100) rfl (fun c97 => ?_) (fun c97 => ?_)
  · exfalso; omega
  refine WP.lconst1 at_100 (pc' := 101) rfl ?_
  refine WP.iloadN at_101 rfl (pc' := 102) rfl ?_
  refine WP.iconst at_102 (z := (3 : Int32)) rfl (pc' := 103) rfl ?_
  refine WP.iand at_103 (pc' := 104) rfl ?_
  refine WP.i2l at_104 (pc' := 105) rfl ?_
  refine WP.ladd at_105 (pc' := 106) rfl ?_
  refine WP.goto at_106 (pc' := 117) (by decide) ?_
  obtain ⟨g3, e_g3⟩ : ∃ z, z = ((1 : Int64) + (r &&& (3 : Int32)).toInt64) := ⟨_, rfl⟩
  rw [← e_g3]
  refine WP.lstore at_117 (pc' := 119) rfl (ls' := #[.val (.int a), .val (.int p), .val (.int q), .val (.int r), .val (.long b), .second, .val (.int mode), .val (.int n), .val (.int near), .val (.int (1 : Int32)), .val (.int k), .val (.long g1), .second, .val (.long g2), .second, .val (.long g3), .second, .unset, .unset, .unset, .unset, .unset, .unset, .unset, .unset, .unset, .unset, .unset, .unset, .unset, .unset, .unset, .unset, .unset, .unset]) rfl ?_
  have m_g3 : (r &&& (3 : Int32)).toInt = r.toInt % 4 := own_mask _ _ 2 _ (by decide) (by decide) (by decide)
  have i_g3 := c_i2l (r &&& (3 : Int32))
  have b_g3 : 1 ≤ g3.toInt ∧ g3.toInt ≤ 2147483648 := by rw [e_g3, own_ladd] <;> omega
  exact law_119 hw a p q r b mode near (1 : Int32) k n g1 g2 g3 hn b_g1 b_g2 b_g3
theorem law_25 {l : Launch} {Z : State} {a0 : Array Value} (hw : HW Z a0) {n0 : Nat} {h : Heap} (a p q r : Int32) (b : Int64) (mode near n : Int32) (hn : 0 ≤ n.toInt ∧ n.toInt ≤ 4) : WP l B0 Z n0 (fun v h' => v = some (.int 1)) h 0 0 25 #[.val (.int a), .val (.int p), .val (.int q), .val (.int r), .val (.long b), .second, .val (.int mode), .val (.int n), .val (.int near), .unset, .unset, .unset, .unset, .unset, .unset, .unset, .unset, .unset, .unset, .unset, .unset, .unset, .unset, .unset, .unset, .unset, .unset, .unset, .unset, .unset, .unset, .unset, .unset, .unset, .unset] [] := by
  have k32_0 : (0 : Int32).toInt = 0 := by decide
  have k32_1 : (1 : Int32).toInt = 1 := by decide
  have k32_2 : (2 : Int32).toInt = 2 := by decide
  refine WP.iload at_25 rfl (pc' := 27) rfl ?_
  refine WP.iconst at_27 (z := (2 : Int32)) rfl (pc' := 28) rfl ?_
  refine WP.iand at_28 (pc' := 29) rfl ?_
  refine WP.ifEq at_29 (tgt := 36) (by decide) (pc' := 32) rfl (fun c29 => ?_) (fun c29 => ?_)
  ·
    refine WP.iconst at_36 (z := (0 : Int32)) rfl (pc' := 37) rfl ?_
    refine WP.istore at_37 (pc' := 39) rfl (ls' := #[.val (.int a), .val (.int p), .val (.int q), .val (.int r), .val (.long b), .second, .val (.int mode), .val (.int n), .val (.int near), .val (.int (0 : Int32)), .unset, .unset, .unset, .unset, .unset, .unset, .unset, .unset, .unset, .unset, .unset, .unset, .unset, .unset, .unset, .unset, .unset, .unset, .unset, .unset, .unset, .unset, .unset, .unset, .unset]) rfl ?_
    exact law_39_0 hw a p q r b mode near n hn
  refine WP.iconst at_32 (z := (1 : Int32)) rfl (pc' := 33) rfl ?_
  refine WP.goto at_33 (pc' := 37) (by decide) ?_
  refine WP.istore at_37 (pc' := 39) rfl (ls' := #[.val (.int a), .val (.int p), .val (.int q), .val (.int r), .val (.long b), .second, .val (.int mode), .val (.int n), .val (.int near), .val (.int (1 : Int32)), .unset, .unset, .unset, .unset, .unset, .unset, .unset, .unset, .unset, .unset, .unset, .unset, .unset, .unset, .unset, .unset, .unset, .unset, .unset, .unset, .unset, .unset, .unset, .unset, .unset]) rfl ?_
  exact law_39_1 hw a p q r b mode near n hn
theorem law_met {l : Launch} {Z : State} {a0 : Array Value} (hw : HW Z a0) {n0 : Nat} {h : Heap} (a p q r : Int32) (b : Int64) (mode : Int32) : OMet l x B0 Z n0 #[(.int a), (.int p), (.int q), (.int r), (.long b), (.int mode)] h (fun v h' => v = some (.int 1)) := by
  refine OMet.of_wp (ls0 := #[.val (.int a), .val (.int p), .val (.int q), .val (.int r), .val (.long b), .second, .val (.int mode), .unset, .unset, .unset, .unset, .unset, .unset, .unset, .unset, .unset, .unset, .unset, .unset, .unset, .unset, .unset, .unset, .unset, .unset, .unset, .unset, .unset, .unset, .unset, .unset, .unset, .unset, .unset, .unset]) pl0 rfl rfl (fun m => own_entry 28 rfl rfl) ?_
  have k32_0 : (0 : Int32).toInt = 0 := by decide
  have k32_1 : (1 : Int32).toInt = 1 := by decide
  have k32_4 : (4 : Int32).toInt = 4 := by decide
  have k32_5 : (5 : Int32).toInt = 5 := by decide
  have k32_134217727 : (134217727 : Int32).toInt = 134217727 := by decide
  refine WP.iload at_0 rfl (pc' := 2) rfl ?_
  refine WP.iconst at_2 (z := (4 : Int32)) rfl (pc' := 3) rfl ?_
  refine WP.iushr at_3 (pc' := 4) rfl ?_
  refine WP.ldcI at_4 (w0 hw) (pc' := 6) rfl ?_
  refine WP.iand at_6 (pc' := 7) rfl ?_
  refine WP.iconst at_7 (z := (5 : Int32)) rfl (pc' := 8) rfl ?_
  refine WP.irem at_8 (by decide) (pc' := 9) rfl ?_
  obtain ⟨n, e_n⟩ : ∃ z, z = (((ushr mode (4 : Int32)) &&& (134217727 : Int32)) % (5 : Int32)) := ⟨_, rfl⟩
  rw [← e_n]
  refine WP.istore at_9 (pc' := 11) rfl (ls' := #[.val (.int a), .val (.int p), .val (.int q), .val (.int r), .val (.long b), .second, .val (.int mode), .val (.int n), .unset, .unset, .unset, .unset, .unset, .unset, .unset, .unset, .unset, .unset, .unset, .unset, .unset, .unset, .unset, .unset, .unset, .unset, .unset, .unset, .unset, .unset, .unset, .unset, .unset, .unset, .unset]) rfl ?_
  have f1 : ((ushr mode (4 : Int32)) &&& (134217727 : Int32)).toInt = (ushr mode (4 : Int32)).toInt % 134217728 := own_mask _ _ 27 _ (by decide) (by decide) (by decide)
  have f2 : n.toInt = ((ushr mode (4 : Int32)) &&& (134217727 : Int32)).toInt % 5 := by rw [e_n]; exact own_irem (by decide) (by omega)
  have hn : 0 ≤ n.toInt ∧ n.toInt ≤ 4 := by omega
  refine WP.iload at_11 rfl (pc' := 13) rfl ?_
  refine WP.iconst at_13 (z := (1 : Int32)) rfl (pc' := 14) rfl ?_
  refine WP.iand at_14 (pc' := 15) rfl ?_
  refine WP.ifEq at_15 (tgt := 22) (by decide) (pc' := 18) rfl (fun c15 => ?_) (fun c15 => ?_)
  ·
    refine WP.iconst at_22 (z := (0 : Int32)) rfl (pc' := 23) rfl ?_
    refine WP.istore at_23 (pc' := 25) rfl (ls' := #[.val (.int a), .val (.int p), .val (.int q), .val (.int r), .val (.long b), .second, .val (.int mode), .val (.int n), .val (.int (0 : Int32)), .unset, .unset, .unset, .unset, .unset, .unset, .unset, .unset, .unset, .unset, .unset, .unset, .unset, .unset, .unset, .unset, .unset, .unset, .unset, .unset, .unset, .unset, .unset, .unset, .unset, .unset]) rfl ?_
    exact law_25 hw a p q r b mode _ n hn
  refine WP.iconst at_18 (z := (1 : Int32)) rfl (pc' := 19) rfl ?_
  refine WP.goto at_19 (pc' := 23) (by decide) ?_
  refine WP.istore at_23 (pc' := 25) rfl (ls' := #[.val (.int a), .val (.int p), .val (.int q), .val (.int r), .val (.long b), .second, .val (.int mode), .val (.int n), .val (.int (1 : Int32)), .unset, .unset, .unset, .unset, .unset, .unset, .unset, .unset, .unset, .unset, .unset, .unset, .unset, .unset, .unset, .unset, .unset, .unset, .unset, .unset, .unset, .unset, .unset, .unset, .unset, .unset]) rfl ?_
  exact law_25 hw a p q r b mode _ n hn
theorem comes_1 {Post : Tables → Env → Array Value → State → Outcome → State → Prop} (hpost : ∀ tb e args s v u, (limb_1_1.after args s (.returned v) u = true ∧ limb_1_2.after args s (.returned v) u = true ∧ True) → FrameEnd s (.returned v) u (Jvm.fieldLocs frame_1_writes args s ++ Jvm.arrayLocs frame_1_arrays args s ++ Jvm.staticLocs frame_1_statics s) 24 192 → Post tb e args s (.returned v) u) :
    ArmFor flags0 classFile x code maxLocals ret World_1 tables_1 room_1 Calls_1 rest_1 Pre_1 Post := by
  intro l hfl _ _ p e ha hc hk s m args below hf hA hF happ hP
  obtain ⟨hcalls, hrest, hpre⟩ := hP
  obtain ⟨-, -, -, hnamed, -, -, -, hat⟩ := (Spec.applies_iff hf).mp happ
  obtain ⟨hg, hn⟩ := and_e (Cond.before_iff.mp (show (Jvm.Cond.and given_1 narrow_1).before args s = true from hpre))
  obtain ⟨q0, g0⟩ := and_e hg
  obtain ⟨a0, a1, a2, a3, a4, a5, rfl⟩ : ∃ (a0 : Value) (a1 : Value) (a2 : Value) (a3 : Value) (a4 : Value) (a5 : Value), args = #[a0, a1, a2, a3, a4, a5] := by
    have hs : args.size = 6 := by simpa [Cond.value, given_1] using q0
    obtain ⟨L⟩ := args
    match L, hs with
    | [a0, a1, a2, a3, a4, a5], _ => exact ⟨a0, a1, a2, a3, a4, a5, rfl⟩
  have hw : HW s #[a0, a1, a2, a3, a4, a5] := fun d (hd : d ∈ tables_1) => atoms_spec (ws := Jvm.Cond.code x code maxLocals ret :: tables_1) hat d (List.mem_cons_of_mem _ hd)
  obtain ⟨p0, g1⟩ := and_e g0
  obtain ⟨i0, z0⟩ := is_v p0
  obtain rfl : a0 = (.int i0) := Option.some.inj z0
  obtain ⟨p1, g2⟩ := and_e g1
  obtain ⟨i1, z1⟩ := is_v p1
  obtain rfl : a1 = (.int i1) := Option.some.inj z1
  obtain ⟨p2, g3⟩ := and_e g2
  obtain ⟨i2, z2⟩ := is_v p2
  obtain rfl : a2 = (.int i2) := Option.some.inj z2
  obtain ⟨p3, g4⟩ := and_e g3
  obtain ⟨i3, z3⟩ := is_v p3
  obtain rfl : a3 = (.int i3) := Option.some.inj z3
  obtain ⟨p4, g5⟩ := and_e g4
  obtain ⟨i4, z4⟩ := isL_v p4
  obtain rfl : a4 = (.long i4) := Option.some.inj z4
  obtain ⟨i5, z5⟩ := is_v g5
  obtain rfl : a5 = (.int i5) := Option.some.inj z5
  obtain ⟨n, o, h1, h2, h3, _, L, rfl, ⟨rfl, N, -⟩, hq⟩ := law_met hw i0 i1 i2 i3 i4 i5 (Nat.le_refl _) tables_1 p e ha hc hk s m _ below hf ((Spec.applies_iff_loose hf).mp happ).1 ⟨rfl, State.Warmed39.refl s, rfl⟩ trivial
  refine ⟨n, _, h1, h2, h3, hpost _ _ _ _ _ _ ⟨Cond.after_iff.mpr rfl, Cond.after_iff.mpr (eq_i res_at (Term.int_eval (1)) rfl), trivial⟩ ⟨hq.1, hq.2.1, (hq.2.2.sift fun y hy => Or.inr (N y hy)).mono (by decide) (by decide)⟩⟩
theorem main_1_1 : Claimed_1_1 := comes_1 fun _ _ _ _ _ _ h hF => ⟨h.1, hF⟩
theorem main_1_2 : Claimed_1_2 := comes_1 fun _ _ _ _ _ _ h hF => ⟨h.2.1, hF⟩
end Jvm.Pilot.@@N@@
namespace Jvm.Pilot.@@N@@
open Jvm Jvm.ClassFile Sem Op Lib Jvm.Free Jvm.Stand Jvm.Pilot.@@N@@.Jvm.D
/-! MADE BY PROGRAM (witnessworld.py) out of the Statement's table words and the real class files: 11 classes; the members and pool entries that the words name. The judged class is class 1, her method 2. -/
namespace start1
open Jvm.ClassFile
def u (s : String) : CpInfo := .utf8 (stringToUtf16 s)
/-- a pool by its gaps: so many unusable entries, then the entry; so many at the end -/
def gap : Nat → List CpInfo → List CpInfo
  | 0, r => r
  | n + 1, r => .unusable :: gap n r
def poolList (es : List (Nat × CpInfo)) (last : Nat) : List CpInfo := es.foldr (fun e r => gap e.1 (e.2 :: r)) (gap last [])
def pool (es : List (Nat × CpInfo)) (last : Nat) : Array CpInfo := ⟨poolList es last⟩
def fileOf (pool : Array CpInfo) (this : Nat) (attrs : Array Attribute := #[]) (ms : Array MethodInfo := #[]) (fl : Nat := 33) (sup : Nat := 0) (ifs : Array Nat := #[]) (fds : Array FieldInfo := #[]) : ClassFile where
  minorVersion := 0
  majorVersion := 65
  constantPool := pool
  accessFlags := fl
  thisClass := this
  superClass := sup
  interfaces := ifs
  fields := fds
  methods := ms
  attributes := attrs
def plain (name : String) (sup : Option ClassId) : Class where
  name := name
  kind := .ordinary
  loader := none
  accessFlags := 33
  super := sup
  interfaces := #[]
  cf := none
  fields := #[]
  methods := #[]
  instanceTypes := #[]
  staticTypes := #[]
  resolved := #[]
  callSites := []
  init := .initialized
  statics := none
  mirror := none

def pool0 : Array CpInfo := pool [(5, u "<init>"), (0, u "()V"), (1, .class_ 10), (1, u "java/lang/Object"), (85, u "clone"), (0, u "()Ljava/lang/Object;")] 26

def k0c0 : Code := { maxStack := 0, maxLocals := 1, code := object_method_1_code, exceptionTable := #[], attributes := #[] }
def k0m0 : Method := { name := "<init>", desc := "()V", sig := { parameters := [], returnType := none }, accessFlags := 1, code := some k0c0 }
def k0m1 : Method := { name := "clone", desc := "()Ljava/lang/Object;", sig := { parameters := [], returnType := some (.object "java/lang/Object") }, accessFlags := 260, code := none }
/-- java/lang/Object -/
def k0 : Class := { plain "java/lang/Object" none with
  accessFlags := 33
  interfaces := #[]
  cf := some (fileOf pool0 8 #[] #[{ accessFlags := 1, nameIndex := 5, descriptorIndex := 6, attributes := #[] }, { accessFlags := 260, nameIndex := 96, descriptorIndex := 97, attributes := #[] }] 33 0 #[] #[])
  fields := #[]
  methods := #[k0m0, k0m1]
  instanceTypes := #[]
  staticTypes := #[]
  resolved := Array.replicate 124 none
  statics := none }

def pool1 : Array CpInfo := pool [(2, .class_ 4), (1, u "java/lang/Object"), (0, u "<init>"), (0, u "()V"), (0, .integer 134217727), (0, .long 2147483647), (3, .long 3), (1, .methodref 15 16), (0, .class_ 17), (0, .nameAndType 18 19), (0, u "com/example/singlet/singlet/network/DomainFirstAtLeastPinLaw"), (0, u "below"), (0, u "(ZJJ)I"), (0, .class_ 21), (0, u "com/example/singlet/singlet/network/Domain"), (0, .methodref 20 23), (0, .nameAndType 5 24), (0, u "([I)V"), (0, .methodref 20 26), (0, .nameAndType 27 28), (0, u "firstAtLeast"), (0, u "(J)I"), (3, u "law"), (0, u "(IIIIJI)Z")] 4

def k1m0 : Method := { name := "<init>", desc := "()V", sig := { parameters := [], returnType := none }, accessFlags := 1, code := none }
def k1c1 : Code := { maxStack := 4, maxLocals := 5, code := method_2_code, exceptionTable := #[], attributes := #[] }
def k1m1 : Method := { name := "below", desc := "(ZJJ)I", sig := { parameters := [.boolean, .long, .long], returnType := some .int }, accessFlags := 10, code := some k1c1 }
def k1c2 : Code := { maxStack := 6, maxLocals := 35, code := code, exceptionTable := #[], attributes := #[] }
def k1m2 : Method := { name := "law", desc := "(IIIIJI)Z", sig := { parameters := [.int, .int, .int, .int, .long, .int], returnType := some .boolean }, accessFlags := 9, code := some k1c2 }
/-- com/example/singlet/singlet/network/DomainFirstAtLeastPinLaw -/
def k1 : Class := { plain "com/example/singlet/singlet/network/DomainFirstAtLeastPinLaw" (some 0) with
  accessFlags := 49
  interfaces := #[]
  cf := some (fileOf pool1 15 #[] #[{ accessFlags := 1, nameIndex := 5, descriptorIndex := 6, attributes := #[] }, { accessFlags := 10, nameIndex := 18, descriptorIndex := 19, attributes := #[] }, { accessFlags := 9, nameIndex := 32, descriptorIndex := 33, attributes := #[] }] 49 2 #[] #[])
  fields := #[]
  methods := #[k1m0, k1m1, k1m2]
  instanceTypes := #[]
  staticTypes := #[]
  resolved := Array.replicate 38 none
  statics := none }

def pool2 : Array CpInfo := pool [(1, .methodref 2 3), (0, .class_ 4), (0, .nameAndType 5 6), (0, u "com/example/singlet/singlet/network/Domain"), (0, u "<init>"), (0, u "([ILcom/example/singlet/singlet/network/Trail;I)V"), (0, .methodref 8 9), (0, .class_ 10), (0, .nameAndType 5 11), (0, u "java/lang/Object"), (0, u "()V"), (9, .methodref 22 23), (0, .class_ 24), (0, .nameAndType 25 26), (0, u "[I"), (0, u "clone"), (0, u "()Ljava/lang/Object;"), (0, .fieldref 2 28), (0, .nameAndType 29 24), (0, u "values"), (0, .fieldref 2 31), (0, .nameAndType 32 33), (0, u "present"), (0, u "[Z"), (0, .fieldref 2 35), (0, .nameAndType 36 24), (0, u "next"), (0, .fieldref 2 38), (0, .nameAndType 39 24), (0, u "previous"), (0, .fieldref 2 41), (0, .nameAndType 42 24), (0, u "removed"), (0, .fieldref 2 44), (0, .nameAndType 45 46), (0, u "head"), (0, u "I"), (0, .fieldref 2 48), (0, .nameAndType 49 46), (0, u "tail"), (0, .fieldref 2 51), (0, .nameAndType 52 53), (0, u "trail"), (0, u "Lcom/example/singlet/singlet/network/Trail;"), (0, .fieldref 2 55), (0, .nameAndType 56 46), (0, u "variable"), (2, u "depth"), (39, u "NONE"), (2, u "([I)V"), (11, u "firstAtLeast"), (0, u "(J)I")] 33

def k2c0 : Code := { maxStack := 4, maxLocals := 2, code := prog_11_method_1_code, exceptionTable := #[], attributes := #[] }
def k2m0 : Method := { name := "<init>", desc := "([I)V", sig := { parameters := [(.array .int)], returnType := none }, accessFlags := 1, code := some k2c0 }
def k2c1 : Code := { maxStack := 6, maxLocals := 6, code := prog_11_method_2_code, exceptionTable := #[], attributes := #[] }
def k2m1 : Method := { name := "<init>", desc := "([ILcom/example/singlet/singlet/network/Trail;I)V", sig := { parameters := [(.array .int), (.object "com/example/singlet/singlet/network/Trail"), .int], returnType := none }, accessFlags := 0, code := some k2c1 }
def k2c2 : Code := { maxStack := 4, maxLocals := 6, code := prog_11_method_8_code, exceptionTable := #[], attributes := #[] }
def k2m2 : Method := { name := "firstAtLeast", desc := "(J)I", sig := { parameters := [.long], returnType := some .int }, accessFlags := 0, code := some k2c2 }
/-- com/example/singlet/singlet/network/Domain -/
def k2 : Class := { plain "com/example/singlet/singlet/network/Domain" (some 0) with
  accessFlags := 49
  interfaces := #[]
  cf := some (fileOf pool2 2 #[] #[{ accessFlags := 1, nameIndex := 5, descriptorIndex := 102, attributes := #[] }, { accessFlags := 0, nameIndex := 5, descriptorIndex := 6, attributes := #[] }, { accessFlags := 0, nameIndex := 114, descriptorIndex := 115, attributes := #[] }] 49 8 #[] #[{ accessFlags := 25, nameIndex := 99, descriptorIndex := 46, attributes := #[] }, { accessFlags := 18, nameIndex := 29, descriptorIndex := 24, attributes := #[] }, { accessFlags := 18, nameIndex := 32, descriptorIndex := 33, attributes := #[] }, { accessFlags := 18, nameIndex := 36, descriptorIndex := 24, attributes := #[] }, { accessFlags := 18, nameIndex := 39, descriptorIndex := 24, attributes := #[] }, { accessFlags := 2, nameIndex := 45, descriptorIndex := 46, attributes := #[] }, { accessFlags := 2, nameIndex := 49, descriptorIndex := 46, attributes := #[] }, { accessFlags := 18, nameIndex := 42, descriptorIndex := 24, attributes := #[] }, { accessFlags := 2, nameIndex := 59, descriptorIndex := 46, attributes := #[] }, { accessFlags := 18, nameIndex := 52, descriptorIndex := 53, attributes := #[] }, { accessFlags := 18, nameIndex := 56, descriptorIndex := 46, attributes := #[] }])
  fields := #[{ name := "NONE", type := .int, accessFlags := 25, slot := 0, constantValue := 0 }, { name := "values", type := (.array .int), accessFlags := 18, slot := 0, constantValue := 0 }, { name := "present", type := (.array .boolean), accessFlags := 18, slot := 1, constantValue := 0 }, { name := "next", type := (.array .int), accessFlags := 18, slot := 2, constantValue := 0 }, { name := "previous", type := (.array .int), accessFlags := 18, slot := 3, constantValue := 0 }, { name := "head", type := .int, accessFlags := 2, slot := 4, constantValue := 0 }, { name := "tail", type := .int, accessFlags := 2, slot := 5, constantValue := 0 }, { name := "removed", type := (.array .int), accessFlags := 18, slot := 6, constantValue := 0 }, { name := "depth", type := .int, accessFlags := 2, slot := 7, constantValue := 0 }, { name := "trail", type := (.object "com/example/singlet/singlet/network/Trail"), accessFlags := 18, slot := 8, constantValue := 0 }, { name := "variable", type := .int, accessFlags := 18, slot := 9, constantValue := 0 }]
  methods := #[k2m0, k2m1, k2m2]
  instanceTypes := #[(.array .int), (.array .boolean), (.array .int), (.array .int), .int, .int, (.array .int), .int, (.object "com/example/singlet/singlet/network/Trail"), .int]
  staticTypes := #[.int]
  resolved := Array.replicate 149 none
  statics := none }

def pool3 : Array CpInfo := pool [(1, .class_ 2), (0, u "java/lang/Cloneable"), (0, .class_ 4), (0, u "java/lang/Object")] 2

/-- java/lang/Cloneable -/
def k3 : Class := { plain "java/lang/Cloneable" (some 0) with
  accessFlags := 1537
  interfaces := #[]
  cf := some (fileOf pool3 1 #[] #[] 1537 3 #[] #[])
  fields := #[]
  methods := #[]
  instanceTypes := #[]
  staticTypes := #[]
  resolved := Array.replicate 7 none
  statics := none }

def pool4 : Array CpInfo := pool [(1, u "java/io/Serializable"), (0, .class_ 1), (0, u "java/lang/Object"), (0, .class_ 3)] 3

/-- java/io/Serializable -/
def k4 : Class := { plain "java/io/Serializable" (some 0) with
  accessFlags := 1537
  interfaces := #[]
  cf := some (fileOf pool4 2 #[] #[] 1537 4 #[] #[])
  fields := #[]
  methods := #[]
  instanceTypes := #[]
  staticTypes := #[]
  resolved := Array.replicate 8 none
  statics := none }

/-- the primitive boolean -/
def k5 : Class := { plain "boolean" none with kind := .primitive 'Z', accessFlags := 0x411 }
/-- [Z -/
def k6 : Class := { plain "[Z" (some 0) with kind := .array 5 .boolean, interfaces := #[3, 4], accessFlags := 1041 }

/-- the primitive byte -/
def k7 : Class := { plain "byte" none with kind := .primitive 'B', accessFlags := 0x411 }
/-- [B -/
def k8 : Class := { plain "[B" (some 0) with kind := .array 7 .byte, interfaces := #[3, 4], accessFlags := 1041 }

/-- the primitive int -/
def k9 : Class := { plain "int" none with kind := .primitive 'I', accessFlags := 0x411 }
/-- [I -/
def k10 : Class := { plain "[I" (some 0) with kind := .array 9 .int, interfaces := #[3, 4], accessFlags := 1041 }

def heap : Heap := #[]
def classes : Array Class := #[k0, k1, k2, k3, k4, k5, k6, k7, k8, k9, k10]
def interned : List (Array UInt16 × Addr) := []
def slotsUsed : Nat := 0
def theMethod : MethodId := ⟨1, 2⟩
def args0 : Array Value := #[.int 5, .int 1, .int 2, .int 3, .long 7, .int 33]
def aboutOver (below : List Frame) : State where
  vm := { classes := classes, interned := interned.toArray }
  heap := heap
  slotsUsed := slotsUsed
  threads := #[{ frames := .invoking theMethod args0 :: below }]
def below0 : List Frame := [.native { method := ⟨0, 0⟩, args := #[] }]
def about1 : State := aboutOver below0
def p0 : Program := .bare "" "" ""
def e0 : Env := launch0.env 0 0 0
theorem w_frames : about1.frames = Frame.invoking theMethod args0 :: below0 := rfl
set_option maxRecDepth 65536 in
theorem w_args : argsFit about1.vm theMethod args0 = true := by decide +kernel
set_option maxRecDepth 65536 in
theorem w_heap : heapFits about1 = true := by decide +kernel
set_option maxRecDepth 65536 in
theorem w_runnable : about1.curStatus? = some .runnable := by decide +kernel
set_option maxRecDepth 65536 in
theorem w_alone : about1.alone = true := by decide +kernel
set_option maxRecDepth 65536 in
theorem w_named : about1.methodNamed? x = some theMethod := by decide +kernel
set_option maxRecDepth 65536 in
theorem w_hears : about1.hears theMethod below0 = true := by decide +kernel
set_option maxRecDepth 65536 in
theorem w_ripe : about1.ripe theMethod args0 below0 = true := by decide +kernel
theorem w_running : about1.status = .running := rfl
set_option maxRecDepth 65536 in
theorem w_room : about1.hasRoom e0.platform room_1 = true :=
  launch0.hasRoom_least _ room_1 (by decide +kernel) (by decide +kernel) (by decide +kernel) (by decide +kernel) (by decide +kernel) (by decide +kernel)
theorem allAtoms_all (ts : List Jvm.Cond) (a : Array Jvm.Value) (st : Jvm.State) : (allAtoms ts).before a st = ts.all (fun c => c.before a st) := by
  induction ts with
  | nil => rfl
  | cons c t ih =>
    show (Jvm.Cond.and c (allAtoms t)).before a st = _
    rw [Jvm.Cond.before_and, ih, List.all_cons]
def words1 : List Jvm.Cond := Jvm.Cond.code x code maxLocals ret :: tables_1
/-- a 'code' word, met by the world's own term for the bytes: nothing is compared byte by byte -/
theorem code_word {y : MethodName} {bytes : ByteArray} {mx : Nat} {rt : Option FieldType} {a : Array Value} {s : State} {m : MethodId} {meth : Method} {c : Code} (h1 : s.methodNamed? y = some m) (h2 : s.vm.method? m = some meth) (h3 : meth.code = some c) (h4 : c.code = bytes)
    (h5 : (c.maxLocals == mx && c.exceptionTable.isEmpty && decide (c.maxStack ≤ mostOperands) && decide (meth.sig.returnType = rt) && !meth.locks && decide (parseMethodDescriptor y.desc = some meth.sig)) = true) : (Jvm.Cond.code y bytes mx rt).before a s = true := by
  simp only [Bool.and_eq_true, beq_iff_eq, Bool.not_eq_true', decide_eq_true_eq] at h5
  obtain ⟨⟨⟨⟨⟨g1, g2⟩, g3⟩, g4⟩, g5⟩, g6⟩ := h5
  simp [Cond.before, Cond.holds, Cond.value, h1, h2, h3, h4, g1, g2, g3, g4, g5, g6]
def isCode : Jvm.Cond → Bool
  | .code _ _ _ _ => true
  | _ => false
theorem all_split {L : List Jvm.Cond} {P : Jvm.Cond → Bool} (h1 : L.all (fun c => isCode c || P c) = true) (h2 : ∀ c ∈ L.filter isCode, P c = true) : L.all P = true := by
  refine List.all_eq_true.mpr fun c hc => ?_
  have h := List.all_eq_true.mp h1 c hc
  rcases Bool.eq_false_or_eq_true (isCode c) with hi | hi
  · exact h2 c (List.mem_filter.mpr ⟨hc, hi⟩)
  · simpa [hi] using h
set_option maxRecDepth 65536 in
theorem w_c0 : (Jvm.Cond.code x code maxLocals ret).before args0 about1 = true := code_word (m := ⟨1, 2⟩) (meth := k1m2) (c := k1c2) (by decide +kernel) rfl rfl rfl (by decide +kernel)
set_option maxRecDepth 65536 in
theorem w_c1 : (Jvm.Cond.code ({ cls := "com/example/singlet/singlet/network/DomainFirstAtLeastPinLaw", name := "below", desc := "(ZJJ)I" } : Jvm.MethodName) method_2_code (5 : Nat) (Option.some Jvm.ClassFile.FieldType.int)).before args0 about1 = true := code_word (m := ⟨1, 1⟩) (meth := k1m1) (c := k1c1) (by decide +kernel) rfl rfl rfl (by decide +kernel)
set_option maxRecDepth 65536 in
theorem w_c2 : (Jvm.Cond.code ({ cls := "com/example/singlet/singlet/network/Domain", name := "<init>", desc := "([I)V" } : Jvm.MethodName) prog_11_method_1_code (2 : Nat) (Option.none : Option Jvm.ClassFile.FieldType)).before args0 about1 = true := code_word (m := ⟨2, 0⟩) (meth := k2m0) (c := k2c0) (by decide +kernel) rfl rfl rfl (by decide +kernel)
set_option maxRecDepth 65536 in
theorem w_c3 : (Jvm.Cond.code ({ cls := "com/example/singlet/singlet/network/Domain", name := "<init>", desc := "([ILcom/example/singlet/singlet/network/Trail;I)V" } : Jvm.MethodName) prog_11_method_2_code (6 : Nat) (Option.none : Option Jvm.ClassFile.FieldType)).before args0 about1 = true := code_word (m := ⟨2, 1⟩) (meth := k2m1) (c := k2c1) (by decide +kernel) rfl rfl rfl (by decide +kernel)
set_option maxRecDepth 65536 in
theorem w_c4 : (Jvm.Cond.code ({ cls := "java/lang/Object", name := "<init>", desc := "()V" } : Jvm.MethodName) object_method_1_code (1 : Nat) (Option.none : Option Jvm.ClassFile.FieldType)).before args0 about1 = true := code_word (m := ⟨0, 0⟩) (meth := k0m0) (c := k0c0) (by decide +kernel) rfl rfl rfl (by decide +kernel)
set_option maxRecDepth 65536 in
theorem w_c5 : (Jvm.Cond.code ({ cls := "com/example/singlet/singlet/network/Domain", name := "firstAtLeast", desc := "(J)I" } : Jvm.MethodName) prog_11_method_8_code (6 : Nat) (Option.some Jvm.ClassFile.FieldType.int)).before args0 about1 = true := code_word (m := ⟨2, 2⟩) (meth := k2m2) (c := k2c2) (by decide +kernel) rfl rfl rfl (by decide +kernel)
def codes1 : List Jvm.Cond := [Jvm.Cond.code x code maxLocals ret, Jvm.Cond.code ({ cls := "com/example/singlet/singlet/network/DomainFirstAtLeastPinLaw", name := "below", desc := "(ZJJ)I" } : Jvm.MethodName) method_2_code (5 : Nat) (Option.some Jvm.ClassFile.FieldType.int), Jvm.Cond.code ({ cls := "com/example/singlet/singlet/network/Domain", name := "<init>", desc := "([I)V" } : Jvm.MethodName) prog_11_method_1_code (2 : Nat) (Option.none : Option Jvm.ClassFile.FieldType), Jvm.Cond.code ({ cls := "com/example/singlet/singlet/network/Domain", name := "<init>", desc := "([ILcom/example/singlet/singlet/network/Trail;I)V" } : Jvm.MethodName) prog_11_method_2_code (6 : Nat) (Option.none : Option Jvm.ClassFile.FieldType), Jvm.Cond.code ({ cls := "java/lang/Object", name := "<init>", desc := "()V" } : Jvm.MethodName) object_method_1_code (1 : Nat) (Option.none : Option Jvm.ClassFile.FieldType), Jvm.Cond.code ({ cls := "com/example/singlet/singlet/network/Domain", name := "firstAtLeast", desc := "(J)I" } : Jvm.MethodName) prog_11_method_8_code (6 : Nat) (Option.some Jvm.ClassFile.FieldType.int)]
set_option maxRecDepth 65536 in
theorem codes_eq : words1.filter isCode = codes1 := rfl
theorem w_codes : ∀ c ∈ words1.filter isCode, c.before args0 about1 = true := by
  rw [codes_eq]
  intro c hc
  simp only [codes1, List.mem_cons, List.not_mem_nil, or_false] at hc
  rcases hc with rfl | rfl | rfl | rfl | rfl | rfl
  · exact w_c0
  · exact w_c1
  · exact w_c2
  · exact w_c3
  · exact w_c4
  · exact w_c5
set_option maxRecDepth 65536 in
theorem w_t1 : (words1.take 24).all (fun c => isCode c || c.before args0 about1) = true := by decide +kernel
set_option maxRecDepth 65536 in
theorem w_t2 : ((words1.drop 24).take 24).all (fun c => isCode c || c.before args0 about1) = true := by decide +kernel
set_option maxRecDepth 65536 in
theorem w_t3 : ((words1.drop 24).drop 24).all (fun c => isCode c || c.before args0 about1) = true := by decide +kernel
theorem w_tables : (allAtoms (Jvm.Cond.code x code maxLocals ret :: tables_1)).before args0 about1 = true := by
  rw [allAtoms_all]
  show words1.all (fun c => c.before args0 about1) = true
  refine all_split ?_ w_codes
  rw [← List.take_append_drop 24 words1, List.all_append, w_t1, ← List.take_append_drop 24 (words1.drop 24), List.all_append, w_t2, w_t3]
  rfl
set_option maxRecDepth 65536 in
theorem w_case : (Jvm.Cond.and given_1 narrow_1).before args0 about1 = true := by decide +kernel
theorem w_applies : (headSpec (Jvm.Cond.code x code maxLocals ret :: tables_1) room_1).applies x e0.platform about1 = true :=
  (Spec.applies_iff w_frames).mpr ⟨w_running, w_runnable, w_alone, w_named, w_hears, w_ripe, w_room, w_tables⟩
theorem atStart : AtStart classFile x code maxLocals ret World_1 tables_1 room_1 Calls_1 rest_1 Pre_1 launch0 p0 e0 about1 theMethod args0 below0 :=
  ⟨lists_1, trivial, launch0.admits_env _ _ _, launch0.least_env, fairChoices_fair.cas, fairChoices_fair.clock, w_frames, w_args, w_heap, w_applies, trivial, trivial, w_case⟩
end start1
theorem witness_1 : WitnessClaimed_1 := ⟨start1.p0, start1.e0, start1.about1, start1.theMethod, start1.args0, start1.below0, start1.atStart⟩
end Jvm.Pilot.@@N@@

import JvmDerived
import JvmDerived.Pilot.@@N@@Statement
import JvmDerived.Pilot.@@N@@Code
set_option linter.unusedVariables false
set_option linter.unusedSimpArgs false
set_option maxRecDepth 65536
set_option maxHeartbeats 2000000

namespace Jvm.OwnWP
open Sem ClassFile Op Lib Jvm.Stand Jvm.Free Jvm.LawKit Jvm.RoadKit
/-- Java's shifts and its comparison of longs -/
def ushr (x y : Int32) : Int32 := (x.toUInt32 >>> (y &&& 31).toUInt32).toInt32
def ushrL (x : Int64) (y : Int32) : Int64 := (x.toUInt64 >>> (y &&& 0x3f).toInt64.toUInt64).toInt64
def cmpL (x y : Int64) : Int32 := if x > y then 1 else if x = y then 0 else -1
/-! A body: its class, its name, bytes, max_locals, what it returns, its room. -/
abbrev Bod : Type := String × String × ByteArray × Nat × Option FieldType × Room
abbrev Bod.own (B : Bod) : String := B.1
abbrev Bod.mname (B : Bod) : String := B.2.1
abbrev Bod.bytes (B : Bod) : ByteArray := B.2.2.1
abbrev Bod.maxL (B : Bod) : Nat := B.2.2.2.1
abbrev Bod.ret (B : Bod) : Option FieldType := B.2.2.2.2.1
abbrev Bod.room (B : Bod) : Room := B.2.2.2.2.2
def Ctx (p : Program) (s : State) (m : MethodId) (meth : Method) (c : Code) (Z : State) (B : Bod) : Prop :=
  p.tables.exec = Jvm.exec ∧ Z.Warmed39 s.vm ∧ s.vm.findClass B.own = some m.cls ∧ c.code = B.bytes ∧ c.maxLocals = B.maxL ∧ meth.sig.returnType = B.ret ∧ meth.locks = false ∧ meth.name = B.mname
/-- From pc, with these locals and this stack, over the heap h, the body returns, and Q says of what it returns and of the heap. -/
def WP (l : Launch) (B : Bod) (Z : State) (n0 : Nat) (Q : Option Value → Heap → Prop) (h : Heap) (cs sl pc : Nat) (ls : Array Slot) (st : List Value) : Prop :=
  ∀ (p : Program) (e : Env) (s : State) (m : MethodId) (args : Array Value) (below : List Frame) (meth : Method) (c : Code) (T : State) (L : List Loc),
    Ctx p s m meth c Z B → Stand p l e B.room s m args below meth c T L cs sl → T.heap = h → Fr n0 L → n0 ≤ h.size →
    ∃ (U : State) (v : Option Value) (L' : List Loc), Steps p.tables e below (T.setTop (mkF m pc ls st)) U ∧ U.status = .running ∧ Ended U below (.returned v) ∧ Q v U.heap ∧ Fr n0 L' ∧ n0 ≤ U.heap.size ∧ FrameEnd s (.returned v) U L' B.room.cells B.room.slots
/-- The contract of a body: called with the arguments as over the heap h0. -/
def OMet (l : Launch) (y : MethodName) (B : Bod) (Z : State) (n0 : Nat) (as : Array Value) (h0 : Heap) (Q : Option Value → Heap → Prop) : Prop :=
  n0 ≤ h0.size → ∀ ws, MetFree l y (head1 (Cond.code y B.bytes B.maxL B.ret :: ws) B.room) (fun a U => a = as ∧ Z.Warmed39 U.vm ∧ U.heap = h0) (fun _ _ _ _ _ => True) (fun _ U o U' => ∃ v L, o = .returned v ∧ (Q v U'.heap ∧ Fr n0 L ∧ n0 ≤ U'.heap.size) ∧ FrameEnd U o U' L B.room.cells B.room.slots)
section W
variable {l : Launch} {B : Bod} {Z : State} {n0 : Nat} {Q : Option Value → Heap → Prop} {h : Heap} {cs sl pc pc' : Nat} {ls ls' : Array Slot} {st rest : List Value} {a0 : Array Value}
theorem OMet.of_wp {y : MethodName} {as : Array Value} {ls0 : Array Slot} (hpl : plainFor y = true) (h1 : y.cls = B.own) (h2 : y.name = B.mname) (hef : ∀ m, entryFrame m as B.maxL = mkF m 0 ls0 []) (H : WP l B Z n0 Q h 0 0 0 ls0 []) : OMet l y B Z n0 as h Q := by
  intro hn ws
  refine MetFree.of_bodySF hpl hisR ?_
  intro p e s m args below meth c s₁ Bd hml0 hP hK
  obtain ⟨rfl, hZ, hh⟩ := hP
  have hnm := (name_of_methodNamed Bd.named Bd.method).1
  have hown : s.vm.findClass y.cls = some m.cls := findClass_of_methodNamed Bd.named
  have X0 := Stand.of_body Bd
  have e0 : s₁.heap = h := by rw [← hh, Bd.state]; rfl
  obtain ⟨U, v, L', a1, a2, a3, a4, a5, a6, a7⟩ := H p e s m args below meth c s₁ [] ⟨Bd.exec, hZ, h1 ▸ hown, Bd.bytes, hml0, Bd.returns, Bd.notSynchronized, hnm.trans h2⟩ X0 e0 (Fr.nil n0) hn
  exact ⟨U, _, castTop (hef m) a1, a2, a3, v, L', rfl, ⟨a4, a5, a6⟩, a7⟩
theorem WP.mono {Q' : Option Value → Heap → Prop} (H : WP l B Z n0 Q' h cs sl pc ls st) (hq : ∀ v h', Q' v h' → Q v h') : WP l B Z n0 Q h cs sl pc ls st := by
  intro p e s m args below meth c T L C X hT N hn
  obtain ⟨U, v, L', a1, a2, a3, a4, r⟩ := H p e s m args below meth c T L C X hT N hn
  exact ⟨U, v, L', a1, a2, a3, hq _ _ a4, r⟩
/-- a plain step: the state stays, the frame moves -/
theorem WP.step {pc' : Nat} {ls' : Array Slot} {st' : List Value}
    (S : ∀ (p : Program) (e : Env) (s : State) (m : MethodId) (args : Array Value) (below : List Frame) (meth : Method) (c : Code) (T : State) (L : List Loc), Ctx p s m meth c Z B → Stand p l e B.room s m args below meth c T L cs sl → T.heap = h → ∀ target, Steps p.tables e below (T.setTop (mkF m pc' ls' st')) target → Steps p.tables e below (T.setTop (mkF m pc ls st)) target)
    (H : WP l B Z n0 Q h cs sl pc' ls' st') : WP l B Z n0 Q h cs sl pc ls st := by
  intro p e s m args below meth c T L C X hT N hn
  obtain ⟨U, v, L', a1, r⟩ := H p e s m args below meth c T L C X hT N hn
  exact ⟨U, v, L', S p e s m args below meth c T L C X hT _ a1, r⟩
/-- a step to another state -/
theorem WP.stepT {pc' cs' sl' : Nat} {ls' : Array Slot} {st' : List Value} {P : Heap → Prop}
    (S : ∀ (p : Program) (e : Env) (s : State) (m : MethodId) (args : Array Value) (below : List Frame) (meth : Method) (c : Code) (T : State) (L : List Loc), Ctx p s m meth c Z B → Stand p l e B.room s m args below meth c T L cs sl → T.heap = h → Fr n0 L → n0 ≤ h.size →
      ∃ (T' : State) (h' : Heap) (L' : List Loc), Stand p l e B.room s m args below meth c T' L' cs' sl' ∧ T'.heap = h' ∧ Fr n0 L' ∧ n0 ≤ h'.size ∧ P h' ∧ ∀ target, Steps p.tables e below (T'.setTop (mkF m pc' ls' st')) target → Steps p.tables e below (T.setTop (mkF m pc ls st)) target)
    (H : ∀ h', P h' → WP l B Z n0 Q h' cs' sl' pc' ls' st') : WP l B Z n0 Q h cs sl pc ls st := by
  intro p e s m args below meth c T L C X hT N hn
  obtain ⟨T', h', L1, X', e', N', n', hp, st⟩ := S p e s m args below meth c T L C X hT N hn
  obtain ⟨U, v, L', a1, r⟩ := H h' hp p e s m args below meth c T' L1 C X' e' N' n'
  exact ⟨U, v, L', st _ a1, r⟩
/-! loads, stores, constants -/
theorem WP.iloadN {k : Fin 4} {v : Int32} (hd : decode B.bytes pc = .ok (.iload_n k, 1)) (hl : ls[k.val]? = some (.val (.int v))) (hp : pc + 1 = pc') (H : WP l B Z n0 Q h cs sl pc' ls (.int v :: st)) : WP l B Z n0 Q h cs sl pc ls st := by
  subst hp; exact WP.step (fun p e s m args below meth c T L C X hT target k => XS.iloadN X.here C.1 rfl (hb C.2.2.2.1 hd) hl k) H
theorem WP.iload {k : Nat} {v : Int32} (hd : decode B.bytes pc = .ok (.iload k, 2)) (hl : ls[k]? = some (.val (.int v))) (hp : pc + 2 = pc') (H : WP l B Z n0 Q h cs sl pc' ls (.int v :: st)) : WP l B Z n0 Q h cs sl pc ls st := by
  subst hp; exact WP.step (fun p e s m args below meth c T L C X hT target k => XS.iload X.here C.1 rfl (hb C.2.2.2.1 hd) hl k) H
theorem WP.lloadN {k : Fin 4} {v : Int64} (hd : decode B.bytes pc = .ok (.lload_n k, 1)) (hl : ls[k.val]? = some (.val (.long v))) (hp : pc + 1 = pc') (H : WP l B Z n0 Q h cs sl pc' ls (.long v :: st)) : WP l B Z n0 Q h cs sl pc ls st := by
  subst hp; exact WP.step (fun p e s m args below meth c T L C X hT target k => XS.lloadN X.here C.1 rfl (hb C.2.2.2.1 hd) hl k) H
theorem WP.lload {k : Nat} {v : Int64} (hd : decode B.bytes pc = .ok (.lload k, 2)) (hl : ls[k]? = some (.val (.long v))) (hp : pc + 2 = pc') (H : WP l B Z n0 Q h cs sl pc' ls (.long v :: st)) : WP l B Z n0 Q h cs sl pc ls st := by
  subst hp; exact WP.step (fun p e s m args below meth c T L C X hT target k => XS.lload X.here C.1 rfl (hb C.2.2.2.1 hd) hl k) H
theorem WP.aloadN {k : Fin 4} {v : Value} (hd : decode B.bytes pc = .ok (.aload_n k, 1)) (hl : ls[k.val]? = some (.val v)) (hv : v.isRef = true) (hp : pc + 1 = pc') (H : WP l B Z n0 Q h cs sl pc' ls (v :: st)) : WP l B Z n0 Q h cs sl pc ls st := by
  subst hp; exact WP.step (fun p e s m args below meth c T L C X hT target k => XS.aloadN X.here C.1 rfl (hb C.2.2.2.1 hd) hl hv k) H
theorem WP.aload {k : Nat} {v : Value} (hd : decode B.bytes pc = .ok (.aload k, 2)) (hl : ls[k]? = some (.val v)) (hv : v.isRef = true) (hp : pc + 2 = pc') (H : WP l B Z n0 Q h cs sl pc' ls (v :: st)) : WP l B Z n0 Q h cs sl pc ls st := by
  subst hp; exact WP.step (fun p e s m args below meth c T L C X hT target k => XS.aload X.here C.1 rfl (hb C.2.2.2.1 hd) hl hv k) H
theorem WP.istoreN {k : Fin 4} {x : Int32} (hd : decode B.bytes pc = .ok (.istore_n k, 1)) (hp : pc + 1 = pc') (hl : storeLocals ls k.val (.int x) = some ls') (H : WP l B Z n0 Q h cs sl pc' ls' st) : WP l B Z n0 Q h cs sl pc ls (.int x :: st) := by
  subst hp; exact WP.step (fun p e s m args below meth c T L C X hT target k => XS.istoreN X.here C.1 rfl (hb C.2.2.2.1 hd) rfl hl k) H
theorem WP.istore {k : Nat} {x : Int32} (hd : decode B.bytes pc = .ok (.istore k, 2)) (hp : pc + 2 = pc') (hl : storeLocals ls k (.int x) = some ls') (H : WP l B Z n0 Q h cs sl pc' ls' st) : WP l B Z n0 Q h cs sl pc ls (.int x :: st) := by
  subst hp; exact WP.step (fun p e s m args below meth c T L C X hT target k => XS.istore X.here C.1 rfl (hb C.2.2.2.1 hd) rfl hl k) H
theorem WP.lstoreN {k : Fin 4} {x : Int64} (hd : decode B.bytes pc = .ok (.lstore_n k, 1)) (hp : pc + 1 = pc') (hl : storeLocals ls k.val (.long x) = some ls') (H : WP l B Z n0 Q h cs sl pc' ls' st) : WP l B Z n0 Q h cs sl pc ls (.long x :: st) := by
  subst hp; exact WP.step (fun p e s m args below meth c T L C X hT target k => XS.lstoreN X.here C.1 rfl (hb C.2.2.2.1 hd) rfl hl k) H
theorem WP.lstore {k : Nat} {x : Int64} (hd : decode B.bytes pc = .ok (.lstore k, 2)) (hp : pc + 2 = pc') (hl : storeLocals ls k (.long x) = some ls') (H : WP l B Z n0 Q h cs sl pc' ls' st) : WP l B Z n0 Q h cs sl pc ls (.long x :: st) := by
  subst hp; exact WP.step (fun p e s m args below meth c T L C X hT target k => XS.lstore X.here C.1 rfl (hb C.2.2.2.1 hd) rfl hl k) H
theorem WP.astoreN {k : Fin 4} {x : Value} (hd : decode B.bytes pc = .ok (.astore_n k, 1)) (hp : pc + 1 = pc') (hv : x.isRef = true) (hl : storeLocals ls k.val x = some ls') (H : WP l B Z n0 Q h cs sl pc' ls' st) : WP l B Z n0 Q h cs sl pc ls (x :: st) := by
  subst hp; exact WP.step (fun p e s m args below meth c T L C X hT target k => XS.astoreN X.here C.1 rfl (hb C.2.2.2.1 hd) rfl hv hl k) H
theorem WP.astore {k : Nat} {x : Value} (hd : decode B.bytes pc = .ok (.astore k, 2)) (hp : pc + 2 = pc') (hv : x.isRef = true) (hl : storeLocals ls k x = some ls') (H : WP l B Z n0 Q h cs sl pc' ls' st) : WP l B Z n0 Q h cs sl pc ls (x :: st) := by
  subst hp; exact WP.step (fun p e s m args below meth c T L C X hT target k => XS.astore X.here C.1 rfl (hb C.2.2.2.1 hd) rfl hv hl k) H
theorem WP.iconst {i : Int} {z : Int32} (hd : decode B.bytes pc = .ok (.iconst i, 1)) (hz : Int32.ofInt i = z) (hp : pc + 1 = pc') (H : WP l B Z n0 Q h cs sl pc' ls (.int z :: st)) : WP l B Z n0 Q h cs sl pc ls st := by
  subst hp hz; exact WP.step (fun p e s m args below meth c T L C X hT target k => XS.iconst X.here C.1 rfl (hb C.2.2.2.1 hd) k) H
theorem WP.bipush {i : Int} {z : Int32} (hd : decode B.bytes pc = .ok (.bipush i, 2)) (hz : (Int8.ofInt i).toInt32 = z) (hp : pc + 2 = pc') (H : WP l B Z n0 Q h cs sl pc' ls (.int z :: st)) : WP l B Z n0 Q h cs sl pc ls st := by
  subst hp hz; exact WP.step (fun p e s m args below meth c T L C X hT target k => XS.bipush X.here C.1 rfl (hb C.2.2.2.1 hd) k) H
theorem WP.sipush {i : Int} {z : Int32} (hd : decode B.bytes pc = .ok (.sipush i, 3)) (hz : (Int16.ofInt i).toInt32 = z) (hp : pc + 3 = pc') (H : WP l B Z n0 Q h cs sl pc' ls (.int z :: st)) : WP l B Z n0 Q h cs sl pc ls st := by
  subst hp hz; exact WP.step (fun p e s m args below meth c T L C X hT target k => XS.sipush X.here C.1 rfl (hb C.2.2.2.1 hd) k) H
theorem WP.lconst0 (hd : decode B.bytes pc = .ok (.lconst 0, 1)) (hp : pc + 1 = pc') (H : WP l B Z n0 Q h cs sl pc' ls (.long 0 :: st)) : WP l B Z n0 Q h cs sl pc ls st := by
  subst hp; exact WP.step (fun p e s m args below meth c T L C X hT target k => XS.lconst X.here C.1 rfl (hb C.2.2.2.1 hd) k) H
theorem WP.lconst1 (hd : decode B.bytes pc = .ok (.lconst 1, 1)) (hp : pc + 1 = pc') (H : WP l B Z n0 Q h cs sl pc' ls (.long 1 :: st)) : WP l B Z n0 Q h cs sl pc ls st := by
  subst hp; exact WP.step (fun p e s m args below meth c T L C X hT target k => XS.lconst X.here C.1 rfl (hb C.2.2.2.1 hd) k) H
theorem WP.aconstNull (hd : decode B.bytes pc = .ok (.aconst_null, 1)) (hp : pc + 1 = pc') (H : WP l B Z n0 Q h cs sl pc' ls (.null :: st)) : WP l B Z n0 Q h cs sl pc ls st := by
  subst hp; exact WP.step (fun p e s m args below meth c T L C X hT target k => XS.aconstNull X.here C.1 rfl (hb C.2.2.2.1 hd) k) H
theorem WP.ldcI {i : Nat} {z : Int32} (hd : decode B.bytes pc = .ok (.ldc i, 2)) (w : (Cond.constant B.own i z).before a0 Z = true) (hp : pc + 2 = pc') (H : WP l B Z n0 Q h cs sl pc' ls (.int z :: st)) : WP l B Z n0 Q h cs sl pc ls st := by
  subst hp; exact WP.step (fun p e s m args below meth c T L C X hT target k => X.ldcInt C.1 C.2.2.1 (mvT C.2.1 w) (g := mkF m pc ls st) rfl (hb C.2.2.2.1 hd) _ k) H
theorem WP.ldcwI {i : Nat} {z : Int32} (hd : decode B.bytes pc = .ok (.ldc_w i, 3)) (w : (Cond.constant B.own i z).before a0 Z = true) (hp : pc + 3 = pc') (H : WP l B Z n0 Q h cs sl pc' ls (.int z :: st)) : WP l B Z n0 Q h cs sl pc ls st := by
  subst hp; exact WP.step (fun p e s m args below meth c T L C X hT target k => X.ldcwInt C.1 C.2.2.1 (mvT C.2.1 w) (g := mkF m pc ls st) rfl (hb C.2.2.2.1 hd) _ k) H
theorem WP.ldc2J {i : Nat} {z : Int64} (hd : decode B.bytes pc = .ok (.ldc2_w i, 3)) (w : (Cond.constantLong B.own i z).before a0 Z = true) (hp : pc + 3 = pc') (H : WP l B Z n0 Q h cs sl pc' ls (.long z :: st)) : WP l B Z n0 Q h cs sl pc ls st := by
  subst hp; exact WP.step (fun p e s m args below meth c T L C X hT target k => X.ldc2Long C.1 C.2.2.1 (mvT C.2.1 w) (g := mkF m pc ls st) rfl (hb C.2.2.2.1 hd) _ k) H
theorem WP.iinc {k : Nat} {cst : Int} {x y : Int32} (hd : decode B.bytes pc = .ok (.iinc k cst, 3)) (hp : pc + 3 = pc') (hl : ls[k]? = some (.val (.int x))) (hy : x + Int32.ofInt cst = y) (hl' : storeLocals ls k (.int y) = some ls') (H : WP l B Z n0 Q h cs sl pc' ls' st) : WP l B Z n0 Q h cs sl pc ls st := by
  subst hp hy; exact WP.step (fun p e s m args below meth c T L C X hT target k => XS.iinc X.here C.1 rfl (hb C.2.2.2.1 hd) hl hl' k) H
/-! the stack -/
theorem WP.dup {x : Value} (hd : decode B.bytes pc = .ok (.dup, 1)) (hc : x.category = 1) (hp : pc + 1 = pc') (H : WP l B Z n0 Q h cs sl pc' ls (x :: x :: st)) : WP l B Z n0 Q h cs sl pc ls (x :: st) := by
  subst hp; exact WP.step (fun p e s m args below meth c T L C X hT target k => XS.dup X.here C.1 rfl (hb C.2.2.2.1 hd) rfl hc k) H
theorem WP.pop {x : Value} (hd : decode B.bytes pc = .ok (.pop, 1)) (hc : x.category = 1) (hp : pc + 1 = pc') (H : WP l B Z n0 Q h cs sl pc' ls st) : WP l B Z n0 Q h cs sl pc ls (x :: st) := by
  subst hp; exact WP.step (fun p e s m args below meth c T L C X hT target k => XS.pop X.here C.1 rfl (hb C.2.2.2.1 hd) rfl hc k) H
theorem WP.dupX1 {x y : Value} (hd : decode B.bytes pc = .ok (.dup_x1, 1)) (hc : x.category = 1) (hc' : y.category = 1) (hp : pc + 1 = pc') (H : WP l B Z n0 Q h cs sl pc' ls (x :: y :: x :: st)) : WP l B Z n0 Q h cs sl pc ls (x :: y :: st) := by
  subst hp; exact WP.step (fun p e s m args below meth c T L C X hT target k => XS.dupX1 X.here C.1 rfl (hb C.2.2.2.1 hd) rfl hc hc' k) H
theorem WP.dup2 {x y : Value} (hd : decode B.bytes pc = .ok (.dup2, 1)) (hc : x.category = 1) (hc' : y.category = 1) (hp : pc + 1 = pc') (H : WP l B Z n0 Q h cs sl pc' ls (x :: y :: x :: y :: st)) : WP l B Z n0 Q h cs sl pc ls (x :: y :: st) := by
  subst hp; exact WP.step (fun p e s m args below meth c T L C X hT target k => Jvm.Free.XT.dup2 X.here C.1 rfl (hb C.2.2.2.1 hd) rfl hc hc' k) H
/-! arithmetic -/
theorem WP.iadd {x : Int32} {y : Int32} (hd : decode B.bytes pc = .ok (.iadd, 1)) (hp : pc + 1 = pc') (H : WP l B Z n0 Q h cs sl pc' ls (.int (x + y) :: st)) : WP l B Z n0 Q h cs sl pc ls (.int y :: .int x :: st) := by
  subst hp; exact WP.step (fun p e s m args below meth c T L C X hT target k => XS.iadd X.here C.1 rfl (hb C.2.2.2.1 hd) rfl k) H
theorem WP.isub {x : Int32} {y : Int32} (hd : decode B.bytes pc = .ok (.isub, 1)) (hp : pc + 1 = pc') (H : WP l B Z n0 Q h cs sl pc' ls (.int (x - y) :: st)) : WP l B Z n0 Q h cs sl pc ls (.int y :: .int x :: st) := by
  subst hp; exact WP.step (fun p e s m args below meth c T L C X hT target k => XS.isub X.here C.1 rfl (hb C.2.2.2.1 hd) rfl k) H
theorem WP.imul {x : Int32} {y : Int32} (hd : decode B.bytes pc = .ok (.imul, 1)) (hp : pc + 1 = pc') (H : WP l B Z n0 Q h cs sl pc' ls (.int (x * y) :: st)) : WP l B Z n0 Q h cs sl pc ls (.int y :: .int x :: st) := by
  subst hp; exact WP.step (fun p e s m args below meth c T L C X hT target k => XS.imul X.here C.1 rfl (hb C.2.2.2.1 hd) rfl k) H
theorem WP.iand {x : Int32} {y : Int32} (hd : decode B.bytes pc = .ok (.iand, 1)) (hp : pc + 1 = pc') (H : WP l B Z n0 Q h cs sl pc' ls (.int (x &&& y) :: st)) : WP l B Z n0 Q h cs sl pc ls (.int y :: .int x :: st) := by
  subst hp; exact WP.step (fun p e s m args below meth c T L C X hT target k => XS.iand X.here C.1 rfl (hb C.2.2.2.1 hd) rfl k) H
theorem WP.ior {x : Int32} {y : Int32} (hd : decode B.bytes pc = .ok (.ior, 1)) (hp : pc + 1 = pc') (H : WP l B Z n0 Q h cs sl pc' ls (.int (x ||| y) :: st)) : WP l B Z n0 Q h cs sl pc ls (.int y :: .int x :: st) := by
  subst hp; exact WP.step (fun p e s m args below meth c T L C X hT target k => XS.ior X.here C.1 rfl (hb C.2.2.2.1 hd) rfl k) H
theorem WP.ixor {x : Int32} {y : Int32} (hd : decode B.bytes pc = .ok (.ixor, 1)) (hp : pc + 1 = pc') (H : WP l B Z n0 Q h cs sl pc' ls (.int (x ^^^ y) :: st)) : WP l B Z n0 Q h cs sl pc ls (.int y :: .int x :: st) := by
  subst hp; exact WP.step (fun p e s m args below meth c T L C X hT target k => XS.ixor X.here C.1 rfl (hb C.2.2.2.1 hd) rfl k) H
theorem WP.ladd {x : Int64} {y : Int64} (hd : decode B.bytes pc = .ok (.ladd, 1)) (hp : pc + 1 = pc') (H : WP l B Z n0 Q h cs sl pc' ls (.long (x + y) :: st)) : WP l B Z n0 Q h cs sl pc ls (.long y :: .long x :: st) := by
  subst hp; exact WP.step (fun p e s m args below meth c T L C X hT target k => XS.ladd X.here C.1 rfl (hb C.2.2.2.1 hd) rfl k) H
theorem WP.lsub {x : Int64} {y : Int64} (hd : decode B.bytes pc = .ok (.lsub, 1)) (hp : pc + 1 = pc') (H : WP l B Z n0 Q h cs sl pc' ls (.long (x - y) :: st)) : WP l B Z n0 Q h cs sl pc ls (.long y :: .long x :: st) := by
  subst hp; exact WP.step (fun p e s m args below meth c T L C X hT target k => XS.lsub X.here C.1 rfl (hb C.2.2.2.1 hd) rfl k) H
theorem WP.lmul {x : Int64} {y : Int64} (hd : decode B.bytes pc = .ok (.lmul, 1)) (hp : pc + 1 = pc') (H : WP l B Z n0 Q h cs sl pc' ls (.long (x * y) :: st)) : WP l B Z n0 Q h cs sl pc ls (.long y :: .long x :: st) := by
  subst hp; exact WP.step (fun p e s m args below meth c T L C X hT target k => XS.lmul X.here C.1 rfl (hb C.2.2.2.1 hd) rfl k) H
theorem WP.land {x : Int64} {y : Int64} (hd : decode B.bytes pc = .ok (.land, 1)) (hp : pc + 1 = pc') (H : WP l B Z n0 Q h cs sl pc' ls (.long (x &&& y) :: st)) : WP l B Z n0 Q h cs sl pc ls (.long y :: .long x :: st) := by
  subst hp; exact WP.step (fun p e s m args below meth c T L C X hT target k => XS.land X.here C.1 rfl (hb C.2.2.2.1 hd) rfl k) H
theorem WP.lor {x : Int64} {y : Int64} (hd : decode B.bytes pc = .ok (.lor, 1)) (hp : pc + 1 = pc') (H : WP l B Z n0 Q h cs sl pc' ls (.long (x ||| y) :: st)) : WP l B Z n0 Q h cs sl pc ls (.long y :: .long x :: st) := by
  subst hp; exact WP.step (fun p e s m args below meth c T L C X hT target k => XS.lor X.here C.1 rfl (hb C.2.2.2.1 hd) rfl k) H
theorem WP.lxor {x : Int64} {y : Int64} (hd : decode B.bytes pc = .ok (.lxor, 1)) (hp : pc + 1 = pc') (H : WP l B Z n0 Q h cs sl pc' ls (.long (x ^^^ y) :: st)) : WP l B Z n0 Q h cs sl pc ls (.long y :: .long x :: st) := by
  subst hp; exact WP.step (fun p e s m args below meth c T L C X hT target k => XS.lxor X.here C.1 rfl (hb C.2.2.2.1 hd) rfl k) H
theorem WP.ishl {x : Int32} {y : Int32} (hd : decode B.bytes pc = .ok (.ishl, 1)) (hp : pc + 1 = pc') (H : WP l B Z n0 Q h cs sl pc' ls (.int (x <<< (y &&& 31)) :: st)) : WP l B Z n0 Q h cs sl pc ls (.int y :: .int x :: st) := by
  subst hp; exact WP.step (fun p e s m args below meth c T L C X hT target k => XS.ishl X.here C.1 rfl (hb C.2.2.2.1 hd) rfl k) H
theorem WP.ishr {x : Int32} {y : Int32} (hd : decode B.bytes pc = .ok (.ishr, 1)) (hp : pc + 1 = pc') (H : WP l B Z n0 Q h cs sl pc' ls (.int (x >>> (y &&& 31)) :: st)) : WP l B Z n0 Q h cs sl pc ls (.int y :: .int x :: st) := by
  subst hp; exact WP.step (fun p e s m args below meth c T L C X hT target k => XS.ishr X.here C.1 rfl (hb C.2.2.2.1 hd) rfl k) H
theorem WP.iushr {x : Int32} {y : Int32} (hd : decode B.bytes pc = .ok (.iushr, 1)) (hp : pc + 1 = pc') (H : WP l B Z n0 Q h cs sl pc' ls (.int (ushr x y) :: st)) : WP l B Z n0 Q h cs sl pc ls (.int y :: .int x :: st) := by
  subst hp; exact WP.step (fun p e s m args below meth c T L C X hT target k => XS.iushr X.here C.1 rfl (hb C.2.2.2.1 hd) rfl k) H
theorem WP.lshl {x : Int64} {y : Int32} (hd : decode B.bytes pc = .ok (.lshl, 1)) (hp : pc + 1 = pc') (H : WP l B Z n0 Q h cs sl pc' ls (.long (x <<< (y &&& 63).toInt64) :: st)) : WP l B Z n0 Q h cs sl pc ls (.int y :: .long x :: st) := by
  subst hp; exact WP.step (fun p e s m args below meth c T L C X hT target k => XS.lshl X.here C.1 rfl (hb C.2.2.2.1 hd) rfl k) H
theorem WP.lshr {x : Int64} {y : Int32} (hd : decode B.bytes pc = .ok (.lshr, 1)) (hp : pc + 1 = pc') (H : WP l B Z n0 Q h cs sl pc' ls (.long (x >>> (y &&& 63).toInt64) :: st)) : WP l B Z n0 Q h cs sl pc ls (.int y :: .long x :: st) := by
  subst hp; exact WP.step (fun p e s m args below meth c T L C X hT target k => XS.lshr X.here C.1 rfl (hb C.2.2.2.1 hd) rfl k) H
theorem WP.lushr {x : Int64} {y : Int32} (hd : decode B.bytes pc = .ok (.lushr, 1)) (hp : pc + 1 = pc') (H : WP l B Z n0 Q h cs sl pc' ls (.long (ushrL x y) :: st)) : WP l B Z n0 Q h cs sl pc ls (.int y :: .long x :: st) := by
  subst hp; exact WP.step (fun p e s m args below meth c T L C X hT target k => XS.lushr X.here C.1 rfl (hb C.2.2.2.1 hd) rfl k) H
theorem WP.ineg {x : Int32}  (hd : decode B.bytes pc = .ok (.ineg, 1)) (hp : pc + 1 = pc') (H : WP l B Z n0 Q h cs sl pc' ls (.int (-x) :: st)) : WP l B Z n0 Q h cs sl pc ls (.int x :: st) := by
  subst hp; exact WP.step (fun p e s m args below meth c T L C X hT target k => XS.ineg X.here C.1 rfl (hb C.2.2.2.1 hd) rfl k) H
theorem WP.lneg {x : Int64}  (hd : decode B.bytes pc = .ok (.lneg, 1)) (hp : pc + 1 = pc') (H : WP l B Z n0 Q h cs sl pc' ls (.long (-x) :: st)) : WP l B Z n0 Q h cs sl pc ls (.long x :: st) := by
  subst hp; exact WP.step (fun p e s m args below meth c T L C X hT target k => XS.lneg X.here C.1 rfl (hb C.2.2.2.1 hd) rfl k) H
theorem WP.i2l {x : Int32}  (hd : decode B.bytes pc = .ok (.i2l, 1)) (hp : pc + 1 = pc') (H : WP l B Z n0 Q h cs sl pc' ls (.long x.toInt64 :: st)) : WP l B Z n0 Q h cs sl pc ls (.int x :: st) := by
  subst hp; exact WP.step (fun p e s m args below meth c T L C X hT target k => XS.i2l X.here C.1 rfl (hb C.2.2.2.1 hd) rfl k) H
theorem WP.l2i {x : Int64}  (hd : decode B.bytes pc = .ok (.l2i, 1)) (hp : pc + 1 = pc') (H : WP l B Z n0 Q h cs sl pc' ls (.int x.toInt32 :: st)) : WP l B Z n0 Q h cs sl pc ls (.long x :: st) := by
  subst hp; exact WP.step (fun p e s m args below meth c T L C X hT target k => XS.l2i X.here C.1 rfl (hb C.2.2.2.1 hd) rfl k) H
theorem WP.i2b {x : Int32}  (hd : decode B.bytes pc = .ok (.i2b, 1)) (hp : pc + 1 = pc') (H : WP l B Z n0 Q h cs sl pc' ls (.int x.toInt8.toInt32 :: st)) : WP l B Z n0 Q h cs sl pc ls (.int x :: st) := by
  subst hp; exact WP.step (fun p e s m args below meth c T L C X hT target k => XS.i2b X.here C.1 rfl (hb C.2.2.2.1 hd) rfl k) H
theorem WP.i2s {x : Int32}  (hd : decode B.bytes pc = .ok (.i2s, 1)) (hp : pc + 1 = pc') (H : WP l B Z n0 Q h cs sl pc' ls (.int x.toInt16.toInt32 :: st)) : WP l B Z n0 Q h cs sl pc ls (.int x :: st) := by
  subst hp; exact WP.step (fun p e s m args below meth c T L C X hT target k => XS.i2s X.here C.1 rfl (hb C.2.2.2.1 hd) rfl k) H
theorem WP.i2c {x : Int32}  (hd : decode B.bytes pc = .ok (.i2c, 1)) (hp : pc + 1 = pc') (H : WP l B Z n0 Q h cs sl pc' ls (.int x.toUInt32.toUInt16.toUInt32.toInt32 :: st)) : WP l B Z n0 Q h cs sl pc ls (.int x :: st) := by
  subst hp; exact WP.step (fun p e s m args below meth c T L C X hT target k => XS.i2c X.here C.1 rfl (hb C.2.2.2.1 hd) rfl k) H
/-! division (never by zero here), branches -/
theorem WP.irem {x y : Int32} (hd : decode B.bytes pc = .ok (.irem, 1)) (hy : y ≠ 0) (hp : pc + 1 = pc') (H : WP l B Z n0 Q h cs sl pc' ls (.int (x % y) :: st)) : WP l B Z n0 Q h cs sl pc ls (.int y :: .int x :: st) := by
  subst hp; exact WP.step (fun p e s m args below meth c T L C X hT target k => iremM X C.1 rfl (hb C.2.2.2.1 hd) rfl hy k) H
theorem WP.idiv {x y : Int32} (hd : decode B.bytes pc = .ok (.idiv, 1)) (hy : y ≠ 0) (hp : pc + 1 = pc') (H : WP l B Z n0 Q h cs sl pc' ls (.int (x / y) :: st)) : WP l B Z n0 Q h cs sl pc ls (.int y :: .int x :: st) := by
  subst hp; exact WP.step (fun p e s m args below meth c T L C X hT target k => XS.idiv X.here C.1 rfl (hb C.2.2.2.1 hd) rfl hy k) H
theorem WP.lrem {x y : Int64} (hd : decode B.bytes pc = .ok (.lrem, 1)) (hy : y ≠ 0) (hp : pc + 1 = pc') (H : WP l B Z n0 Q h cs sl pc' ls (.long (x - x / y * y) :: st)) : WP l B Z n0 Q h cs sl pc ls (.long y :: .long x :: st) := by
  subst hp; exact WP.step (fun p e s m args below meth c T L C X hT target k => XS.lrem X.here C.1 rfl (hb C.2.2.2.1 hd) rfl hy k) H
theorem WP.goto {o : Int} (hd : decode B.bytes pc = .ok (.goto o, 3)) (ht : (pc : Int) + o = (pc' : Int)) (H : WP l B Z n0 Q h cs sl pc' ls st) : WP l B Z n0 Q h cs sl pc ls st :=
  WP.step (fun p e s m args below meth c T L C X hT target k => XS.goto X.here C.1 rfl (pc0 := pc) (pc' := pc') rfl (hb C.2.2.2.1 hd) (by omega) (by omega) k) H
theorem own_holds (cd : ClassFile.Cond) (x y : Int32) : if_icmp.holds cd x y = match cd with | .eq => decide (x.toInt = y.toInt) | .ne => decide (x.toInt ≠ y.toInt) | .lt => decide (x.toInt < y.toInt) | .ge => decide (y.toInt ≤ x.toInt) | .gt => decide (y.toInt < x.toInt) | .le => decide (x.toInt ≤ y.toInt) := by
  have q : x = y ↔ x.toInt = y.toInt := ⟨fun h => by rw [h], Int32.toInt_inj.mp⟩
  by_cases e : x = y
  · subst e
    cases cd <;> simp [if_icmp.holds]
  · have e' : ¬ x.toInt = y.toInt := fun h => e (q.mpr h)
    cases cd <;> simp [if_icmp.holds, e, e', Int32.lt_iff_toInt_lt, Int32.le_iff_toInt_le]
theorem own_cmpL (cd : ClassFile.Cond) (x y : Int64) : if_icmp.holds cd (cmpL x y) 0 = match cd with | .eq => decide (x.toInt = y.toInt) | .ne => decide (x.toInt ≠ y.toInt) | .lt => decide (x.toInt < y.toInt) | .ge => decide (y.toInt ≤ x.toInt) | .gt => decide (y.toInt < x.toInt) | .le => decide (x.toInt ≤ y.toInt) := by
  have q : x = y ↔ x.toInt = y.toInt := ⟨fun h => by rw [h], Int64.toInt_inj.mp⟩
  rw [own_holds]
  simp only [cmpL, GT.gt, Int64.lt_iff_toInt_lt, q]
  have e1 : (1 : Int32).toInt = 1 := rfl
  have e0 : (0 : Int32).toInt = 0 := rfl
  have em : (-1 : Int32).toInt = -1 := rfl
  by_cases c1 : y.toInt < x.toInt
  · simp only [c1, if_true, e1, e0]
    cases cd <;> simp <;> omega
  · by_cases c2 : x.toInt = y.toInt
    · simp only [c2, Int.lt_irrefl, if_false, if_true, e0]
      cases cd <;> simp
    · simp only [c1, c2, if_false, em, e0]
      cases cd <;> simp <;> omega
theorem WP.icmp {cd : ClassFile.Cond} {x y : Int32} {o : Int} {tgt : Nat} (hd : decode B.bytes pc = .ok (.if_icmp cd o, 3)) (ht : (pc : Int) + o = (tgt : Int)) (hp : pc + 3 = pc') (HY : if_icmp.holds cd x y = true → WP l B Z n0 Q h cs sl tgt ls st) (HN : if_icmp.holds cd x y = false → WP l B Z n0 Q h cs sl pc' ls st) : WP l B Z n0 Q h cs sl pc ls (.int y :: .int x :: st) := by
  subst hp
  cases hc : if_icmp.holds cd x y
  · exact WP.step (fun p e s m args below meth c T L C X hT target k => XS.icmpNo X.here C.1 rfl (hb C.2.2.2.1 hd) rfl hc k) (HN hc)
  · exact WP.step (fun p e s m args below meth c T L C X hT target k => XS.icmpYes X.here C.1 rfl (pc0 := pc) (pc' := tgt) rfl (hb C.2.2.2.1 hd) rfl hc (by omega) (by omega) k) (HY hc)
theorem WP.ifc {cd : ClassFile.Cond} {x : Int32} {o : Int} {tgt : Nat} (hd : decode B.bytes pc = .ok (.ifCond cd o, 3)) (ht : (pc : Int) + o = (tgt : Int)) (hp : pc + 3 = pc') (HY : if_icmp.holds cd x 0 = true → WP l B Z n0 Q h cs sl tgt ls st) (HN : if_icmp.holds cd x 0 = false → WP l B Z n0 Q h cs sl pc' ls st) : WP l B Z n0 Q h cs sl pc ls (.int x :: st) := by
  subst hp
  cases hc : if_icmp.holds cd x 0
  · exact WP.step (fun p e s m args below meth c T L C X hT target k => XS.ifNo X.here C.1 rfl (hb C.2.2.2.1 hd) rfl ((if0 _ _).trans hc) k) (HN hc)
  · exact WP.step (fun p e s m args below meth c T L C X hT target k => XS.ifYes X.here C.1 rfl (pc0 := pc) (pc' := tgt) rfl (hb C.2.2.2.1 hd) rfl ((if0 _ _).trans hc) (by omega) (by omega) k) (HY hc)
theorem WP.lcmp {x y : Int64} (hd : decode B.bytes pc = .ok (.lcmp, 1)) (hp : pc + 1 = pc') (H : WP l B Z n0 Q h cs sl pc' ls (.int (cmpL x y) :: st)) : WP l B Z n0 Q h cs sl pc ls (.long y :: .long x :: st) := by
  subst hp; exact WP.step (fun p e s m args below meth c T L C X hT target k => XS.lcmp X.here C.1 rfl (hb C.2.2.2.1 hd) rfl k) H
theorem WP.icmpEq {x y : Int32} {o : Int} {tgt : Nat} (hd : decode B.bytes pc = .ok (.if_icmp .eq o, 3)) (ht : (pc : Int) + o = (tgt : Int)) (hp : pc + 3 = pc') (HY : x.toInt = y.toInt → WP l B Z n0 Q h cs sl tgt ls st) (HN : x.toInt ≠ y.toInt → WP l B Z n0 Q h cs sl pc' ls st) : WP l B Z n0 Q h cs sl pc ls (.int y :: .int x :: st) :=
  WP.icmp hd ht hp (fun q => HY (by rw [own_holds] at q; simpa using q)) (fun q => HN (by rw [own_holds] at q; simpa using q))
theorem WP.ifEq {x : Int32} {o : Int} {tgt : Nat} (hd : decode B.bytes pc = .ok (.ifCond .eq o, 3)) (ht : (pc : Int) + o = (tgt : Int)) (hp : pc + 3 = pc') (HY : x.toInt = 0 → WP l B Z n0 Q h cs sl tgt ls st) (HN : x.toInt ≠ 0 → WP l B Z n0 Q h cs sl pc' ls st) : WP l B Z n0 Q h cs sl pc ls (.int x :: st) :=
  WP.ifc hd ht hp (fun q => HY (by rw [own_holds] at q; simpa using q)) (fun q => HN (by rw [own_holds] at q; simpa using q))
theorem WP.lcmpEq {x y : Int64} {o : Int} {tgt pc1 : Nat} (hd : decode B.bytes pc = .ok (.lcmp, 1)) (h1 : pc + 1 = pc1) (hd1 : decode B.bytes pc1 = .ok (.ifCond .eq o, 3)) (ht : (pc1 : Int) + o = (tgt : Int)) (hp : pc1 + 3 = pc') (HY : x.toInt = y.toInt → WP l B Z n0 Q h cs sl tgt ls st) (HN : x.toInt ≠ y.toInt → WP l B Z n0 Q h cs sl pc' ls st) : WP l B Z n0 Q h cs sl pc ls (.long y :: .long x :: st) :=
  WP.lcmp hd h1 (WP.ifc hd1 ht hp (fun q => HY (by rw [own_cmpL] at q; simpa using q)) (fun q => HN (by rw [own_cmpL] at q; simpa using q)))
theorem WP.icmpNe {x y : Int32} {o : Int} {tgt : Nat} (hd : decode B.bytes pc = .ok (.if_icmp .ne o, 3)) (ht : (pc : Int) + o = (tgt : Int)) (hp : pc + 3 = pc') (HY : x.toInt ≠ y.toInt → WP l B Z n0 Q h cs sl tgt ls st) (HN : x.toInt = y.toInt → WP l B Z n0 Q h cs sl pc' ls st) : WP l B Z n0 Q h cs sl pc ls (.int y :: .int x :: st) :=
  WP.icmp hd ht hp (fun q => HY (by rw [own_holds] at q; simpa using q)) (fun q => HN (by rw [own_holds] at q; simpa using q))
theorem WP.ifNe {x : Int32} {o : Int} {tgt : Nat} (hd : decode B.bytes pc = .ok (.ifCond .ne o, 3)) (ht : (pc : Int) + o = (tgt : Int)) (hp : pc + 3 = pc') (HY : x.toInt ≠ 0 → WP l B Z n0 Q h cs sl tgt ls st) (HN : x.toInt = 0 → WP l B Z n0 Q h cs sl pc' ls st) : WP l B Z n0 Q h cs sl pc ls (.int x :: st) :=
  WP.ifc hd ht hp (fun q => HY (by rw [own_holds] at q; simpa using q)) (fun q => HN (by rw [own_holds] at q; simpa using q))
theorem WP.lcmpNe {x y : Int64} {o : Int} {tgt pc1 : Nat} (hd : decode B.bytes pc = .ok (.lcmp, 1)) (h1 : pc + 1 = pc1) (hd1 : decode B.bytes pc1 = .ok (.ifCond .ne o, 3)) (ht : (pc1 : Int) + o = (tgt : Int)) (hp : pc1 + 3 = pc') (HY : x.toInt ≠ y.toInt → WP l B Z n0 Q h cs sl tgt ls st) (HN : x.toInt = y.toInt → WP l B Z n0 Q h cs sl pc' ls st) : WP l B Z n0 Q h cs sl pc ls (.long y :: .long x :: st) :=
  WP.lcmp hd h1 (WP.ifc hd1 ht hp (fun q => HY (by rw [own_cmpL] at q; simpa using q)) (fun q => HN (by rw [own_cmpL] at q; simpa using q)))
theorem WP.icmpLt {x y : Int32} {o : Int} {tgt : Nat} (hd : decode B.bytes pc = .ok (.if_icmp .lt o, 3)) (ht : (pc : Int) + o = (tgt : Int)) (hp : pc + 3 = pc') (HY : x.toInt < y.toInt → WP l B Z n0 Q h cs sl tgt ls st) (HN : y.toInt ≤ x.toInt → WP l B Z n0 Q h cs sl pc' ls st) : WP l B Z n0 Q h cs sl pc ls (.int y :: .int x :: st) :=
  WP.icmp hd ht hp (fun q => HY (by rw [own_holds] at q; simpa using q)) (fun q => HN (by rw [own_holds] at q; simpa using q))
theorem WP.ifLt {x : Int32} {o : Int} {tgt : Nat} (hd : decode B.bytes pc = .ok (.ifCond .lt o, 3)) (ht : (pc : Int) + o = (tgt : Int)) (hp : pc + 3 = pc') (HY : x.toInt < 0 → WP l B Z n0 Q h cs sl tgt ls st) (HN : 0 ≤ x.toInt → WP l B Z n0 Q h cs sl pc' ls st) : WP l B Z n0 Q h cs sl pc ls (.int x :: st) :=
  WP.ifc hd ht hp (fun q => HY (by rw [own_holds] at q; simpa using q)) (fun q => HN (by rw [own_holds] at q; simpa using q))
theorem WP.lcmpLt {x y : Int64} {o : Int} {tgt pc1 : Nat} (hd : decode B.bytes pc = .ok (.lcmp, 1)) (h1 : pc + 1 = pc1) (hd1 : decode B.bytes pc1 = .ok (.ifCond .lt o, 3)) (ht : (pc1 : Int) + o = (tgt : Int)) (hp : pc1 + 3 = pc') (HY : x.toInt < y.toInt → WP l B Z n0 Q h cs sl tgt ls st) (HN : y.toInt ≤ x.toInt → WP l B Z n0 Q h cs sl pc' ls st) : WP l B Z n0 Q h cs sl pc ls (.long y :: .long x :: st) :=
  WP.lcmp hd h1 (WP.ifc hd1 ht hp (fun q => HY (by rw [own_cmpL] at q; simpa using q)) (fun q => HN (by rw [own_cmpL] at q; simpa using q)))
theorem WP.icmpGe {x y : Int32} {o : Int} {tgt : Nat} (hd : decode B.bytes pc = .ok (.if_icmp .ge o, 3)) (ht : (pc : Int) + o = (tgt : Int)) (hp : pc + 3 = pc') (HY : y.toInt ≤ x.toInt → WP l B Z n0 Q h cs sl tgt ls st) (HN : x.toInt < y.toInt → WP l B Z n0 Q h cs sl pc' ls st) : WP l B Z n0 Q h cs sl pc ls (.int y :: .int x :: st) :=
  WP.icmp hd ht hp (fun q => HY (by rw [own_holds] at q; simpa using q)) (fun q => HN (by rw [own_holds] at q; simpa using q))
theorem WP.ifGe {x : Int32} {o : Int} {tgt : Nat} (hd : decode B.bytes pc = .ok (.ifCond .ge o, 3)) (ht : (pc : Int) + o = (tgt : Int)) (hp : pc + 3 = pc') (HY : 0 ≤ x.toInt → WP l B Z n0 Q h cs sl tgt ls st) (HN : x.toInt < 0 → WP l B Z n0 Q h cs sl pc' ls st) : WP l B Z n0 Q h cs sl pc ls (.int x :: st) :=
  WP.ifc hd ht hp (fun q => HY (by rw [own_holds] at q; simpa using q)) (fun q => HN (by rw [own_holds] at q; simpa using q))
theorem WP.lcmpGe {x y : Int64} {o : Int} {tgt pc1 : Nat} (hd : decode B.bytes pc = .ok (.lcmp, 1)) (h1 : pc + 1 = pc1) (hd1 : decode B.bytes pc1 = .ok (.ifCond .ge o, 3)) (ht : (pc1 : Int) + o = (tgt : Int)) (hp : pc1 + 3 = pc') (HY : y.toInt ≤ x.toInt → WP l B Z n0 Q h cs sl tgt ls st) (HN : x.toInt < y.toInt → WP l B Z n0 Q h cs sl pc' ls st) : WP l B Z n0 Q h cs sl pc ls (.long y :: .long x :: st) :=
  WP.lcmp hd h1 (WP.ifc hd1 ht hp (fun q => HY (by rw [own_cmpL] at q; simpa using q)) (fun q => HN (by rw [own_cmpL] at q; simpa using q)))
theorem WP.icmpGt {x y : Int32} {o : Int} {tgt : Nat} (hd : decode B.bytes pc = .ok (.if_icmp .gt o, 3)) (ht : (pc : Int) + o = (tgt : Int)) (hp : pc + 3 = pc') (HY : y.toInt < x.toInt → WP l B Z n0 Q h cs sl tgt ls st) (HN : x.toInt ≤ y.toInt → WP l B Z n0 Q h cs sl pc' ls st) : WP l B Z n0 Q h cs sl pc ls (.int y :: .int x :: st) :=
  WP.icmp hd ht hp (fun q => HY (by rw [own_holds] at q; simpa using q)) (fun q => HN (by rw [own_holds] at q; simpa using q))
theorem WP.ifGt {x : Int32} {o : Int} {tgt : Nat} (hd : decode B.bytes pc = .ok (.ifCond .gt o, 3)) (ht : (pc : Int) + o = (tgt : Int)) (hp : pc + 3 = pc') (HY : 0 < x.toInt → WP l B Z n0 Q h cs sl tgt ls st) (HN : x.toInt ≤ 0 → WP l B Z n0 Q h cs sl pc' ls st) : WP l B Z n0 Q h cs sl pc ls (.int x :: st) :=
  WP.ifc hd ht hp (fun q => HY (by rw [own_holds] at q; simpa using q)) (fun q => HN (by rw [own_holds] at q; simpa using q))
theorem WP.lcmpGt {x y : Int64} {o : Int} {tgt pc1 : Nat} (hd : decode B.bytes pc = .ok (.lcmp, 1)) (h1 : pc + 1 = pc1) (hd1 : decode B.bytes pc1 = .ok (.ifCond .gt o, 3)) (ht : (pc1 : Int) + o = (tgt : Int)) (hp : pc1 + 3 = pc') (HY : y.toInt < x.toInt → WP l B Z n0 Q h cs sl tgt ls st) (HN : x.toInt ≤ y.toInt → WP l B Z n0 Q h cs sl pc' ls st) : WP l B Z n0 Q h cs sl pc ls (.long y :: .long x :: st) :=
  WP.lcmp hd h1 (WP.ifc hd1 ht hp (fun q => HY (by rw [own_cmpL] at q; simpa using q)) (fun q => HN (by rw [own_cmpL] at q; simpa using q)))
theorem WP.icmpLe {x y : Int32} {o : Int} {tgt : Nat} (hd : decode B.bytes pc = .ok (.if_icmp .le o, 3)) (ht : (pc : Int) + o = (tgt : Int)) (hp : pc + 3 = pc') (HY : x.toInt ≤ y.toInt → WP l B Z n0 Q h cs sl tgt ls st) (HN : y.toInt < x.toInt → WP l B Z n0 Q h cs sl pc' ls st) : WP l B Z n0 Q h cs sl pc ls (.int y :: .int x :: st) :=
  WP.icmp hd ht hp (fun q => HY (by rw [own_holds] at q; simpa using q)) (fun q => HN (by rw [own_holds] at q; simpa using q))
theorem WP.ifLe {x : Int32} {o : Int} {tgt : Nat} (hd : decode B.bytes pc = .ok (.ifCond .le o, 3)) (ht : (pc : Int) + o = (tgt : Int)) (hp : pc + 3 = pc') (HY : x.toInt ≤ 0 → WP l B Z n0 Q h cs sl tgt ls st) (HN : 0 < x.toInt → WP l B Z n0 Q h cs sl pc' ls st) : WP l B Z n0 Q h cs sl pc ls (.int x :: st) :=
  WP.ifc hd ht hp (fun q => HY (by rw [own_holds] at q; simpa using q)) (fun q => HN (by rw [own_holds] at q; simpa using q))
theorem WP.lcmpLe {x y : Int64} {o : Int} {tgt pc1 : Nat} (hd : decode B.bytes pc = .ok (.lcmp, 1)) (h1 : pc + 1 = pc1) (hd1 : decode B.bytes pc1 = .ok (.ifCond .le o, 3)) (ht : (pc1 : Int) + o = (tgt : Int)) (hp : pc1 + 3 = pc') (HY : x.toInt ≤ y.toInt → WP l B Z n0 Q h cs sl tgt ls st) (HN : y.toInt < x.toInt → WP l B Z n0 Q h cs sl pc' ls st) : WP l B Z n0 Q h cs sl pc ls (.long y :: .long x :: st) :=
  WP.lcmp hd h1 (WP.ifc hd1 ht hp (fun q => HY (by rw [own_cmpL] at q; simpa using q)) (fun q => HN (by rw [own_cmpL] at q; simpa using q)))
theorem WP.ifnullY {o : Int} (hd : decode B.bytes pc = .ok (.ifnull o, 3)) (ht : (pc : Int) + o = (pc' : Int)) (H : WP l B Z n0 Q h cs sl pc' ls st) : WP l B Z n0 Q h cs sl pc ls (.null :: st) :=
  WP.step (fun p e s m args below meth c T L C X hT target k => XS.ifnullYes X.here C.1 rfl (pc0 := pc) (pc' := pc') rfl (hb C.2.2.2.1 hd) rfl (by omega) (by omega) k) H
theorem WP.ifnullN {o : Int} {a : Addr} (hd : decode B.bytes pc = .ok (.ifnull o, 3)) (hp : pc + 3 = pc') (H : WP l B Z n0 Q h cs sl pc' ls st) : WP l B Z n0 Q h cs sl pc ls (.ref a :: st) := by
  subst hp; exact WP.step (fun p e s m args below meth c T L C X hT target k => XS.ifnullNo X.here C.1 rfl (hb C.2.2.2.1 hd) rfl k) H
theorem WP.ifnonnullN {o : Int} (hd : decode B.bytes pc = .ok (.ifnonnull o, 3)) (hp : pc + 3 = pc') (H : WP l B Z n0 Q h cs sl pc' ls st) : WP l B Z n0 Q h cs sl pc ls (.null :: st) := by
  subst hp; exact WP.step (fun p e s m args below meth c T L C X hT target k => XS.ifnonnullNo X.here C.1 rfl (hb C.2.2.2.1 hd) rfl k) H
theorem WP.ifnonnullY {o : Int} {a : Addr} (hd : decode B.bytes pc = .ok (.ifnonnull o, 3)) (ht : (pc : Int) + o = (pc' : Int)) (H : WP l B Z n0 Q h cs sl pc' ls st) : WP l B Z n0 Q h cs sl pc ls (.ref a :: st) :=
  WP.step (fun p e s m args below meth c T L C X hT target k => XS.ifnonnullYes X.here C.1 rfl (pc0 := pc) (pc' := pc') rfl (hb C.2.2.2.1 hd) rfl (by omega) (by omega) k) H
theorem WP.acmpEq {x y : Value} {o : Int} {tgt : Nat} (hd : decode B.bytes pc = .ok (.if_acmp .eq o, 3)) (ht : (pc : Int) + o = (tgt : Int)) (hp : pc + 3 = pc') (h1 : x.isRef = true) (h2 : y.isRef = true) (HY : x = y → WP l B Z n0 Q h cs sl tgt ls st) (HN : x ≠ y → WP l B Z n0 Q h cs sl pc' ls st) : WP l B Z n0 Q h cs sl pc ls (y :: x :: st) := by
  subst hp
  have e1 : ((pc : Int) + o).toNat = tgt := by omega
  by_cases q : x = y
  · exact WP.step (fun p e s m args below meth c T L C X hT target k => Jvm.RoadKit.acmp (g := mkF m pc ls (y :: x :: st)) X C.1 rfl h1 h2 (pc0 := pc) (pc' := tgt) (same := true) rfl (hb C.2.2.2.1 hd) rfl (by simp [q]) (by omega) (by simp [acV, e1]) k) (HY q)
  · exact WP.step (fun p e s m args below meth c T L C X hT target k => Jvm.RoadKit.acmp (g := mkF m pc ls (y :: x :: st)) X C.1 rfl h1 h2 (pc0 := pc) (pc' := pc + 3) (same := false) rfl (hb C.2.2.2.1 hd) rfl (by simp [q]) (by omega) (by simp [acV]) k) (HN q)
theorem WP.acmpNe {x y : Value} {o : Int} {tgt : Nat} (hd : decode B.bytes pc = .ok (.if_acmp .ne o, 3)) (ht : (pc : Int) + o = (tgt : Int)) (hp : pc + 3 = pc') (h1 : x.isRef = true) (h2 : y.isRef = true) (HY : x ≠ y → WP l B Z n0 Q h cs sl tgt ls st) (HN : x = y → WP l B Z n0 Q h cs sl pc' ls st) : WP l B Z n0 Q h cs sl pc ls (y :: x :: st) := by
  subst hp
  have e1 : ((pc : Int) + o).toNat = tgt := by omega
  by_cases q : x = y
  · exact WP.step (fun p e s m args below meth c T L C X hT target k => Jvm.RoadKit.acmp (g := mkF m pc ls (y :: x :: st)) X C.1 rfl h1 h2 (pc0 := pc) (pc' := pc + 3) (same := true) rfl (hb C.2.2.2.1 hd) rfl (by simp [q]) (by omega) (by simp [acV]) k) (HN q)
  · exact WP.step (fun p e s m args below meth c T L C X hT target k => Jvm.RoadKit.acmp (g := mkF m pc ls (y :: x :: st)) X C.1 rfl h1 h2 (pc0 := pc) (pc' := tgt) (same := false) rfl (hb C.2.2.2.1 hd) rfl (by simp [q]) (by omega) (by simp [acV, e1]) k) (HY q)
/-! returns -/
theorem WP.ret0 (hd : decode B.bytes pc = .ok (.return_, 1)) (hr : B.ret = none) (hc : cs ≤ B.room.cells) (hs : sl ≤ B.room.slots) (hQ : Q none h) : WP l B Z n0 Q h cs sl pc ls [] := by
  intro p e s m args below meth c T L C X hT N hn
  obtain ⟨hx, hZ, hown, hby, hml, hret, hlk, hnm⟩ := C
  obtain ⟨fs, hrr, hrun, hended, hW, hsame⟩ := X.leave (v := none) (fun _ => rfl) hlk
  have hh : (T.setFrames fs).heap = h := hT
  exact ⟨T.setFrames fs, none, L, X.returnOut hx (hret.trans hr) (hb hby hd) hrr, hrun, hended, by rw [hh]; exact hQ, N, by rw [hh]; exact hn, ⟨_, rfl⟩, hW, hsame.mono hc hs⟩
theorem WP.retI {z : Int32} (hd : decode B.bytes pc = .ok (.ireturn, 1)) (hr : B.ret = some .int) (hc : cs ≤ B.room.cells) (hs : sl ≤ B.room.slots) (hQ : Q (some (.int z)) h) : WP l B Z n0 Q h cs sl pc ls (.int z :: st) := by
  intro p e s m args below meth c T L C X hT N hn
  obtain ⟨hx, hZ, hown, hby, hml, hret, hlk, hnm⟩ := C
  obtain ⟨fs, hrr, hrun, hended, hW, hsame⟩ := X.leave (v := some (.int z)) (fun q => by rw [hret, hr] at q; cases q) hlk
  have hh : (T.setFrames fs).heap = h := hT
  exact ⟨T.setFrames fs, _, L, retOut X hx (hret.trans hr) rfl (Or.inl ⟨rfl, Or.inl rfl, z, rfl⟩) (hb hby hd) hrr, hrun, hended, by rw [hh]; exact hQ, N, by rw [hh]; exact hn, ⟨_, rfl⟩, hW, hsame.mono hc hs⟩
theorem WP.retN {z : Int32} {t : FieldType} (hd : decode B.bytes pc = .ok (.ireturn, 1)) (hr : B.ret = some t) (ht : t = .boolean ∨ t = .byte ∨ t = .char ∨ t = .short) (hc : cs ≤ B.room.cells) (hs : sl ≤ B.room.slots) (hQ : Q (some (.int (nar t z))) h) : WP l B Z n0 Q h cs sl pc ls (.int z :: st) := by
  intro p e s m args below meth c T L C X hT N hn
  obtain ⟨hx, hZ, hown, hby, hml, hret, hlk, hnm⟩ := C
  obtain ⟨fs, hrr, hrun, hended, hW, hsame⟩ := X.leave (v := some (.int (nar t z))) (fun q => by rw [hret, hr] at q; cases q) hlk
  have hh : (T.setFrames fs).heap = h := hT
  exact ⟨T.setFrames fs, _, L, Jvm.RoadKit.retN X hx (hret.trans hr) ht (hb hby hd) hrr, hrun, hended, by rw [hh]; exact hQ, N, by rw [hh]; exact hn, ⟨_, rfl⟩, hW, hsame.mono hc hs⟩
theorem WP.retJ {z : Int64} (hd : decode B.bytes pc = .ok (.lreturn, 1)) (hr : B.ret = some .long) (hc : cs ≤ B.room.cells) (hs : sl ≤ B.room.slots) (hQ : Q (some (.long z)) h) : WP l B Z n0 Q h cs sl pc ls (.long z :: st) := by
  intro p e s m args below meth c T L C X hT N hn
  obtain ⟨hx, hZ, hown, hby, hml, hret, hlk, hnm⟩ := C
  obtain ⟨fs, hrr, hrun, hended, hW, hsame⟩ := X.leave (v := some (.long z)) (fun q => by rw [hret, hr] at q; cases q) hlk
  have hh : (T.setFrames fs).heap = h := hT
  exact ⟨T.setFrames fs, _, L, retOut X hx (hret.trans hr) rfl (Or.inr (Or.inl ⟨rfl, rfl, z, rfl⟩)) (hb hby hd) hrr, hrun, hended, by rw [hh]; exact hQ, N, by rw [hh]; exact hn, ⟨_, rfl⟩, hW, hsame.mono hc hs⟩
theorem WP.retA {z : Value} {t : FieldType} (hd : decode B.bytes pc = .ok (.areturn, 1)) (hr : B.ret = some t) (ht : t.isReference = true) (hz : z.isRef = true) (hc : cs ≤ B.room.cells) (hs : sl ≤ B.room.slots) (hQ : Q (some z) h) : WP l B Z n0 Q h cs sl pc ls (z :: st) := by
  intro p e s m args below meth c T L C X hT N hn
  obtain ⟨hx, hZ, hown, hby, hml, hret, hlk, hnm⟩ := C
  obtain ⟨fs, hrr, hrun, hended, hW, hsame⟩ := X.leave (v := some z) (fun q => by rw [hret, hr] at q; cases q) hlk
  have hh : (T.setFrames fs).heap = h := hT
  have hnw : narrow t z = z := by rcases ref_cases hz with rfl | ⟨a, rfl⟩ <;> cases t <;> rfl
  exact ⟨T.setFrames fs, _, L, retOut X hx (hret.trans hr) hnw (Or.inr (Or.inr (Or.inr (Or.inr ⟨rfl, ht, hz⟩)))) (hb hby hd) hrr, hrun, hended, by rw [hh]; exact hQ, N, by rw [hh]; exact hn, ⟨_, rfl⟩, hW, hsame.mono hc hs⟩
/-! calls -/
theorem WP.callS {y : MethodName} {By : Bod} {as : List Value} {idx : Nat} {Qy : Option Value → Heap → Prop} {ps : List FieldType} {r : Option FieldType}
    (hd : decode B.bytes pc = .ok (.invokestatic idx, 3)) (w1 : (Cond.methodLink B.own idx y).before a0 Z = true) (w2 : (Cond.static y).before a0 Z = true) (w3 : (Cond.initialized y.cls).before a0 Z = true) (w4 : (Cond.code y By.bytes By.maxL By.ret).before a0 Z = true)
    (hy : y.cls ≠ "java/lang/invoke/MethodHandle" ∧ y.cls ≠ "java/lang/invoke/VarHandle") (hM : OMet l y By Z n0 as.toArray h Qy) (hpd : parseMethodDescriptor y.desc = some ⟨ps, r⟩) (hlen : as.length = ps.length) (hst : st = as.reverse ++ rest) (hls : ls.size = B.maxL)
    (hfr : By.room.frames + 1 ≤ B.room.frames) (hlo : (rest.map fun v => v.category).sum + (By.maxL + 11) + By.room.locals ≤ B.room.locals) (hc : cs + By.room.cells ≤ B.room.cells) (hs : sl + By.room.slots ≤ B.room.slots) (hp : pc + 3 = pc')
    (H : ∀ v h', Qy v h' → WP l B Z n0 Q h' (cs + By.room.cells) (sl + By.room.slots) pc' ls (v.toList ++ rest)) : WP l B Z n0 Q h cs sl pc ls st := by
  subst hp
  intro p e s m args below meth c T L C X hT N hn
  obtain ⟨hx, hZ, hown, hby, hml, hret, hlk, hnm⟩ := C
  obtain ⟨v, _, ⟨T1, L1, k1, n1⟩, -, X1, ⟨Lc, hQ, l1, y1, z1⟩, stp⟩ := Jvm.LawKit.callS X hx hown (mvT hZ w1) (mvT hZ w2) (mvT hZ w3) (mvT hZ w4) hy (backOf (W := (rest.map fun v => v.category).sum) (Q := fun v h' L => Qy v h' ∧ Fr n0 L ∧ n0 ≤ h'.size) (hM hn []) hZ w4 w3 hfr hlo) (g := mkF m pc ls st) rfl (by rw [hml]; exact hls) (argsL := as) (rest := rest) (lenOf hpd hlen) hst (by show 2 * 0 + _ ≤ _; omega) (hb hby hd) (fun _ _ => ⟨rfl, hT, hc, hs⟩)
  dsimp only [Pt.U, Pt.locs, Pt.cells, Pt.slots] at X1 l1 y1 z1 stp hQ
  subst l1 y1 z1
  obtain ⟨U, v', L', a1, rr⟩ := H v T1.heap hQ.1 p e s m args below meth c T1 _ ⟨hx, hZ, hown, hby, hml, hret, hlk, hnm⟩ X1 rfl (N.app hQ.2.1) hQ.2.2
  exact ⟨U, v', L', stp _ a1, rr⟩
theorem WP.callI {y : MethodName} {By : Bod} {as : List Value} {a : Addr} {idx : Nat} {Qy : Option Value → Heap → Prop} {ps : List FieldType} {r : Option FieldType}
    (hd : decode B.bytes pc = .ok (.invokespecial idx, 3)) (w1 : (Cond.methodLink B.own idx y).before a0 Z = true) (w2 : (Cond.instanceMethod y).before a0 Z = true) (w3 : (Cond.initialized y.cls).before a0 Z = true) (w4 : (Cond.code y By.bytes By.maxL By.ret).before a0 Z = true) (hyn : y.name = "<init>") (hyr : By.ret = none)
    (hy : y.cls ≠ "java/lang/invoke/MethodHandle" ∧ y.cls ≠ "java/lang/invoke/VarHandle") (hM : OMet l y By Z n0 (.ref a :: as).toArray h Qy) (hpd : parseMethodDescriptor y.desc = some ⟨ps, r⟩) (hlen : as.length = ps.length) (hst : st = as.reverse ++ .ref a :: rest) (hls : ls.size = B.maxL)
    (hfr : By.room.frames + 1 ≤ B.room.frames) (hlo : (rest.map fun v => v.category).sum + (By.maxL + 11) + By.room.locals ≤ B.room.locals) (hc : cs + By.room.cells ≤ B.room.cells) (hs : sl + By.room.slots ≤ B.room.slots) (hp : pc + 3 = pc')
    (H : ∀ v h', Qy v h' → WP l B Z n0 Q h' (cs + By.room.cells) (sl + By.room.slots) pc' ls (v.toList ++ rest)) : WP l B Z n0 Q h cs sl pc ls st := by
  subst hp
  intro p e s m args below meth c T L C X hT N hn
  obtain ⟨hx, hZ, hown, hby, hml, hret, hlk, hnm⟩ := C
  obtain ⟨v, _, ⟨T1, L1, k1, n1⟩, -, X1, ⟨Lc, hQ, l1, y1, z1⟩, stp⟩ := X.specialBack hx (y := y) hyn hown (mvT hZ w1) (mvT hZ w2) (mvT hZ (hyr ▸ w4)) hy (backOf (W := (rest.map fun v => v.category).sum) (Q := fun v h' L => Qy v h' ∧ Fr n0 L ∧ n0 ≤ h'.size) (hM hn []) hZ w4 w3 hfr hlo) (g := mkF m pc ls st) rfl (by rw [hml]; exact hls) (Steps.refl _) (a := a) (argsL := as) (rest := rest) (lenOf hpd hlen) hst (by show 2 * 0 + _ ≤ _; omega) (hb hby hd) (fun _ _ => ⟨rfl, hT, hc, hs⟩)
  dsimp only [Pt.U, Pt.locs, Pt.cells, Pt.slots] at X1 l1 y1 z1 stp hQ
  subst l1 y1 z1
  obtain ⟨U, v', L', a1, rr⟩ := H v T1.heap hQ.1 p e s m args below meth c T1 _ ⟨hx, hZ, hown, hby, hml, hret, hlk, hnm⟩ X1 rfl (N.app hQ.2.1) hQ.2.2
  exact ⟨U, v', L', stp.trans a1, rr⟩
theorem WP.callV {y z : MethodName} {By : Bod} {Cl : String} {as : List Value} {a : Addr} {idx : Nat} {Qy : Option Value → Heap → Prop} {ps : List FieldType} {r : Option FieldType}
    (hd : decode B.bytes pc = .ok (.invokevirtual idx, 3)) (w1 : (Cond.methodLink B.own idx y).before a0 Z = true) (w2 : (Cond.declares y).before a0 Z = true) (w5 : (Cond.selects Cl y z).before a0 Z = true) (w6 : (Cond.instanceMethod z).before a0 Z = true) (w3 : (Cond.initialized z.cls).before a0 Z = true) (w4 : (Cond.code z By.bytes By.maxL By.ret).before a0 Z = true) (hyz : y = z) (hcl : Cl = y.cls)
    (hy : y.cls ≠ "java/lang/invoke/MethodHandle" ∧ y.cls ≠ "java/lang/invoke/VarHandle") (E : Exa Z h a Cl) (hM : OMet l z By Z n0 (.ref a :: as).toArray h Qy) (hpd : parseMethodDescriptor y.desc = some ⟨ps, r⟩) (hlen : as.length = ps.length) (hst : st = as.reverse ++ .ref a :: rest) (hls : ls.size = B.maxL)
    (hfr : By.room.frames + 1 ≤ B.room.frames) (hlo : (rest.map fun v => v.category).sum + (By.maxL + 11) + By.room.locals ≤ B.room.locals) (hc : cs + By.room.cells ≤ B.room.cells) (hs : sl + By.room.slots ≤ B.room.slots) (hp : pc + 3 = pc')
    (H : ∀ v h', Qy v h' → WP l B Z n0 Q h' (cs + By.room.cells) (sl + By.room.slots) pc' ls (v.toList ++ rest)) : WP l B Z n0 Q h cs sl pc ls st := by
  subst hp hyz hcl
  intro p e s m args below meth c T L C X hT N hn
  obtain ⟨hx, hZ, hown, hby, hml, hret, hlk, hnm⟩ := C
  obtain ⟨cq, kq, qa, qb, qc⟩ := isOf (T := T) hZ hT E
  obtain ⟨v, _, ⟨T1, L1, k1, n1⟩, -, X1, ⟨Lc, hQ, l1, y1, z1⟩, stp⟩ := X.virtualBack hx (y := y) (z := y) hown (mvT hZ w1) (mvT hZ w2) (notFace_of_selects (args := #[]) (mvT hZ w5)) (mvT hZ w5) (mvT hZ w6) hy (backOf (W := (rest.map fun v => v.category).sum) (Q := fun v h' L => Qy v h' ∧ Fr n0 L ∧ n0 ≤ h'.size) (hM hn []) hZ w4 w3 hfr hlo) qa qc (g := mkF m pc ls st) rfl (by rw [hml]; exact hls) (Steps.refl _) (argsL := as) (rest := rest) (lenOf hpd hlen) hst (by show 2 * 0 + _ ≤ _; omega) (hb hby hd) (fun _ _ => ⟨rfl, hT, hc, hs⟩)
  dsimp only [Pt.U, Pt.locs, Pt.cells, Pt.slots] at X1 l1 y1 z1 stp hQ
  subst l1 y1 z1
  obtain ⟨U, v', L', a1, rr⟩ := H v T1.heap hQ.1 p e s m args below meth c T1 _ ⟨hx, hZ, hown, hby, hml, hret, hlk, hnm⟩ X1 rfl (N.app hQ.2.1) hQ.2.2
  exact ⟨U, v', L', stp.trans a1, rr⟩
/-- Object.<init> -/
theorem WP.initO {a : Addr} {idx : Nat} (hd : decode B.bytes pc = .ok (.invokespecial idx, 3)) (w1 : (Cond.methodLink B.own idx Lib.objectInit).before a0 Z = true) (w2 : (Cond.instanceMethod Lib.objectInit).before a0 Z = true) (w3 : (Cond.code Lib.objectInit ⟨#[0xb1]⟩ 1 none).before a0 Z = true) (hls : ls.size = B.maxL) (hf : 1 ≤ B.room.frames) (hl : (rest.map fun v => v.category).sum + 12 ≤ B.room.locals) (hp : pc + 3 = pc')
    (H : WP l B Z n0 Q h cs sl pc' ls rest) : WP l B Z n0 Q h cs sl pc ls (.ref a :: rest) := by
  subst hp
  intro p e s m args below meth c T L C X hT N hn
  obtain ⟨hx, hZ, hown, hby, hml, hret, hlk, hnm⟩ := C
  obtain ⟨T1, X1, e1, stp⟩ := Jvm.RoadKit.initO X hx hZ hown w1 w2 w3 hT (g := mkF m pc ls (.ref a :: rest)) rfl (by rw [hml]; exact hls) rfl (hb hby hd) hf (W := (rest.map fun v => v.category).sum) (by show 2 * 0 + _ ≤ _; omega) hl
  obtain ⟨U, v', L', a1, rr⟩ := H p e s m args below meth c T1 _ ⟨hx, hZ, hown, hby, hml, hret, hlk, hnm⟩ X1 e1 N hn
  exact ⟨U, v', L', stp _ a1, rr⟩
/-! arrays: what one holds, place by place -/
def Av (Z : State) (h : Heap) (a : Addr) (ty : FieldType) (vs : List Value) : Prop := ∃ c : Cell, Arr Z h a c ty ∧ c.slots.toList = vs ∧ vs.length < 2 ^ 31
variable {a b : Addr} {ty : FieldType} {vs : List Value} {h' : Heap} {ws : List Addr}
theorem Av.lt (A : Av Z h a ty vs) : a < h.size := by obtain ⟨c, q, -⟩ := A; exact q.lt
theorem Av.keep (A : Av Z h a ty vs) (K : Keep h h' ws) (q : a ∉ ws) : Av Z h' a ty vs := by obtain ⟨c, A, r⟩ := A; exact ⟨c, ⟨K.2.1 a c A.1 q, A.2⟩, r⟩
theorem Av.len (A : Av Z h a ty vs) : vs.length < 2 ^ 31 := by obtain ⟨c, A, r, q⟩ := A; exact q
theorem own_idx {j : Int32} {i : Nat} (hj : j.toInt = (i : Int)) : j.toNatClampNeg = i ∧ ¬ j < 0 := by
  refine ⟨by simp [Int32.toNatClampNeg, hj], fun q => ?_⟩
  rw [Int32.lt_iff_toInt_lt] at q
  have : (0 : Int32).toInt = 0 := rfl
  omega
theorem Av.place {j : Int32} {i : Nat} {v : Value} {c : Cell} (e : c.slots.toList = vs) (hj : j.toInt = (i : Int)) (hv : vs[i]? = some v) : ¬ (j < 0 ∨ c.slots.size ≤ j.toNatClampNeg) ∧ c.slots[j.toNatClampNeg]? = some v := by
  obtain ⟨q1, q2⟩ := own_idx hj
  subst e
  rw [q1]
  have q3 : c.slots[i]? = some v := by simpa using hv
  refine ⟨fun q => q.elim q2 fun q => ?_, q3⟩
  have := (Array.getElem?_eq_some_iff.mp q3).1
  omega
theorem Keep.of_ext (E : Ext h h') : Keep h h' [] := (Keep.refl h []).ext E
theorem Av.set {i : Nat} {v : Value} {sl : Nat} (A : Av Z h a ty vs) (W : Wr h h' a sl v) (e : sl = i) : Av Z h' a ty (vs.set i v) := by
  subst e
  obtain ⟨c, A, r, q⟩ := A
  refine ⟨_, A.same W, ?_, by simpa using q⟩
  simp [Cell.setSlot, r]
theorem WP.newarr {aty : ArrayType} {n : Int32} {k : Nat} (hd : decode B.bytes pc = .ok (.newarray aty, 2)) (w : (Cond.arrayClass (newarray.typeOf aty)).before a0 Z = true) (hn : n.toInt = (k : Int)) (cap : Nat) (hcap : k ≤ cap) (hbig : cap * 8 ≤ 536870912) (hc : cs + 1 ≤ B.room.cells) (hs : sl + cap ≤ B.room.slots) (hp : pc + 2 = pc')
    (H : ∀ b h', b = h.size → n0 ≤ b → Keep h h' [] → Av Z h' b (newarray.typeOf aty) (List.replicate k (defaultValue (newarray.typeOf aty))) → WP l B Z n0 Q h' (cs + 1) (sl + cap) pc' ls (.ref b :: st)) : WP l B Z n0 Q h cs sl pc ls (.int n :: st) := by
  subst hp
  obtain ⟨q1, q2⟩ := own_idx hn
  refine WP.stepT (P := fun h' => Keep h h' [] ∧ n0 ≤ h.size ∧ Av Z h' h.size (newarray.typeOf aty) (List.replicate k (defaultValue (newarray.typeOf aty)))) ?_ (fun h' q => H h.size h' rfl q.2.1 q.1 q.2.2)
  intro p e s m args below meth c T L C X hT N hn'
  obtain ⟨T1, h1, cA, X1, e1, E1, A1, stp⟩ := newP X C.1 C.2.1 w hT (g := mkF m pc ls (.int n :: st)) rfl (hb C.2.2.2.1 hd) rfl q2 (cap := cap) (by omega) hbig hc hs
  refine ⟨T1, h1, L, X1, e1, N, Nat.le_trans hn' E1.1, ⟨Keep.of_ext E1, hn', _, A1, ?_, ?_⟩, stp⟩
  · simp [newA, q1]
  · simp; omega
theorem WP.alen {k : Int32} (hd : decode B.bytes pc = .ok (.arraylength, 1)) (A : Av Z h a ty vs) (hk : k.toInt = (vs.length : Int)) (hp : pc + 1 = pc') (H : WP l B Z n0 Q h cs sl pc' ls (.int k :: st)) : WP l B Z n0 Q h cs sl pc ls (.ref a :: st) := by
  subst hp
  obtain ⟨cl, A, r, q⟩ := A
  have e1 : cl.slots.size.toInt32 = k := by
    have e2 : cl.slots.size = vs.length := by rw [← r]; simp
    apply Int32.toInt_inj.mp
    rw [e2, hk]
    exact Int32.toInt_ofNat_of_lt q
  exact WP.step (fun p e s m args below meth c T L C X hT target k' => X.arraylength C.1 (by rw [hT]; exact A.1) (State.isArrayOf_alike C.2.1.alike A.2.1) (g := mkF m pc ls (.ref a :: st)) rfl rfl (hb C.2.2.2.1 hd) _ (by rw [e1]; exact k')) H
theorem WP.iaload {j : Int32} {x : Int32} (i : Nat) (hd : decode B.bytes pc = .ok (.iaload, 1)) (A : Av Z h a .int vs) (hj : j.toInt = (i : Int)) (hv : vs[i]? = some (.int x)) (hp : pc + 1 = pc') (H : WP l B Z n0 Q h cs sl pc' ls (.int x :: st)) : WP l B Z n0 Q h cs sl pc ls (.int j :: .ref a :: st) := by
  subst hp
  obtain ⟨cl, A, r, q⟩ := A
  obtain ⟨g1, g2⟩ := Av.place r hj hv
  exact WP.step (fun p e s m args below meth c T L C X hT target k' => X.iaload C.1 (by rw [hT]; exact A.1) (State.isArrayOf_alike C.2.1.alike A.2.1) A.2.2 g1 g2 (g := mkF m pc ls (.int j :: .ref a :: st)) rfl rfl (hb C.2.2.2.1 hd) _ k') H
theorem WP.laload {j : Int32} {x : Int64} (i : Nat) (hd : decode B.bytes pc = .ok (.laload, 1)) (A : Av Z h a .long vs) (hj : j.toInt = (i : Int)) (hv : vs[i]? = some (.long x)) (hp : pc + 1 = pc') (H : WP l B Z n0 Q h cs sl pc' ls (.long x :: st)) : WP l B Z n0 Q h cs sl pc ls (.int j :: .ref a :: st) := by
  subst hp
  obtain ⟨cl, A, r, q⟩ := A
  obtain ⟨g1, g2⟩ := Av.place r hj hv
  exact WP.step (fun p e s m args below meth c T L C X hT target k' => X.laload C.1 (by rw [hT]; exact A.1) (State.isArrayOf_alike C.2.1.alike A.2.1) A.2.2 g1 g2 (g := mkF m pc ls (.int j :: .ref a :: st)) rfl rfl (hb C.2.2.2.1 hd) _ k') H
theorem WP.caload {j : Int32} {x : Int32} (i : Nat) (hd : decode B.bytes pc = .ok (.caload, 1)) (A : Av Z h a .char vs) (hj : j.toInt = (i : Int)) (hv : vs[i]? = some (.int x)) (hp : pc + 1 = pc') (H : WP l B Z n0 Q h cs sl pc' ls (.int x :: st)) : WP l B Z n0 Q h cs sl pc ls (.int j :: .ref a :: st) := by
  subst hp
  obtain ⟨cl, A, r, q⟩ := A
  obtain ⟨g1, g2⟩ := Av.place r hj hv
  exact WP.step (fun p e s m args below meth c T L C X hT target k' => X.caload C.1 (by rw [hT]; exact A.1) (State.isArrayOf_alike C.2.1.alike A.2.1) A.2.2 g1 g2 (g := mkF m pc ls (.int j :: .ref a :: st)) rfl rfl (hb C.2.2.2.1 hd) _ k') H
theorem WP.baloadB {j : Int32} {x : Int32} (i : Nat) (hd : decode B.bytes pc = .ok (.baload, 1)) (A : Av Z h a .byte vs) (hj : j.toInt = (i : Int)) (hv : vs[i]? = some (.int x)) (hp : pc + 1 = pc') (H : WP l B Z n0 Q h cs sl pc' ls (.int x :: st)) : WP l B Z n0 Q h cs sl pc ls (.int j :: .ref a :: st) := by
  subst hp
  obtain ⟨cl, A, r, q⟩ := A
  obtain ⟨g1, g2⟩ := Av.place r hj hv
  exact WP.step (fun p e s m args below meth c T L C X hT target k' => X.baloadBytes C.1 (by rw [hT]; exact A.1) (State.isArrayOf_alike C.2.1.alike A.2.1) A.2.2 g1 g2 (g := mkF m pc ls (.int j :: .ref a :: st)) rfl rfl (hb C.2.2.2.1 hd) _ k') H
theorem WP.baloadZ {j : Int32} {x : Int32} (i : Nat) (hd : decode B.bytes pc = .ok (.baload, 1)) (A : Av Z h a .boolean vs) (hj : j.toInt = (i : Int)) (hv : vs[i]? = some (.int x)) (hp : pc + 1 = pc') (H : WP l B Z n0 Q h cs sl pc' ls (.int x :: st)) : WP l B Z n0 Q h cs sl pc ls (.int j :: .ref a :: st) := by
  subst hp
  obtain ⟨cl, A, r, q⟩ := A
  obtain ⟨g1, g2⟩ := Av.place r hj hv
  exact WP.step (fun p e s m args below meth c T L C X hT target k' => X.baloadBooleans C.1 (by rw [hT]; exact A.1) (State.isArrayOf_alike C.2.1.alike A.2.1) A.2.2 g1 g2 (g := mkF m pc ls (.int j :: .ref a :: st)) rfl rfl (hb C.2.2.2.1 hd) _ k') H
theorem WP.aaload {j : Int32} {x : Value} (i : Nat) (hd : decode B.bytes pc = .ok (.aaload, 1)) (A : Av Z h a ty vs) (hty : ty.isReference = true) (hj : j.toInt = (i : Int)) (hv : vs[i]? = some x) (hp : pc + 1 = pc') (H : WP l B Z n0 Q h cs sl pc' ls (x :: st)) : WP l B Z n0 Q h cs sl pc ls (.int j :: .ref a :: st) := by
  subst hp
  obtain ⟨cl, A, r, q⟩ := A
  obtain ⟨g1, g2⟩ := Av.place r hj hv
  exact WP.step (fun p e s m args below meth c T L C X hT target k' => X.aaload C.1 (by rw [hT]; exact A.1) (State.isArrayOf_alike C.2.1.alike A.2.1) hty A.2.2 g1 g2 (g := mkF m pc ls (.int j :: .ref a :: st)) rfl rfl (hb C.2.2.2.1 hd) _ k') H
theorem WP.iastore {j : Int32} {x : Int32} (i : Nat) (hd : decode B.bytes pc = .ok (.iastore, 1)) (A : Av Z h a .int vs) (hj : j.toInt = (i : Int)) (hi : i < vs.length) (ha : n0 ≤ a) (hp : pc + 1 = pc') (H : ∀ h', Keep h h' [a] → Av Z h' a .int (vs.set i (.int x)) → WP l B Z n0 Q h' cs sl pc' ls st) : WP l B Z n0 Q h cs sl pc ls (.int x :: .int j :: .ref a :: st) := by
  subst hp
  obtain ⟨cl, Ar, r, q⟩ := id A
  obtain ⟨g1, -⟩ := Av.place r hj (List.getElem?_eq_getElem hi)
  refine WP.stepT (P := fun h' => Keep h h' [a] ∧ Av Z h' a .int (vs.set i (.int x))) ?_ (fun h' q => H h' q.1 q.2)
  intro p e s m args below meth c T L C X hT N hn'
  obtain ⟨T1, h1, X1, e1, W1, stp⟩ := stI X C.1 C.2.1 hT Ar g1 (g := mkF m pc ls (.int x :: .int j :: .ref a :: st)) rfl rfl (hb C.2.2.2.1 hd)
  exact ⟨T1, h1, _, X1, e1, Fr.snoc X1 N ha, by rw [W1.size]; exact hn', ⟨Keep.of_wr W1, A.set W1 (own_idx hj).1⟩, stp⟩
theorem WP.lastore {j : Int32} {x : Int64} (i : Nat) (hd : decode B.bytes pc = .ok (.lastore, 1)) (A : Av Z h a .long vs) (hj : j.toInt = (i : Int)) (hi : i < vs.length) (ha : n0 ≤ a) (hp : pc + 1 = pc') (H : ∀ h', Keep h h' [a] → Av Z h' a .long (vs.set i (.long x)) → WP l B Z n0 Q h' cs sl pc' ls st) : WP l B Z n0 Q h cs sl pc ls (.long x :: .int j :: .ref a :: st) := by
  subst hp
  obtain ⟨cl, Ar, r, q⟩ := id A
  obtain ⟨g1, -⟩ := Av.place r hj (List.getElem?_eq_getElem hi)
  refine WP.stepT (P := fun h' => Keep h h' [a] ∧ Av Z h' a .long (vs.set i (.long x))) ?_ (fun h' q => H h' q.1 q.2)
  intro p e s m args below meth c T L C X hT N hn'
  obtain ⟨T1, h1, X1, e1, W1, stp⟩ := stJ X C.1 C.2.1 hT Ar g1 (g := mkF m pc ls (.long x :: .int j :: .ref a :: st)) rfl rfl (hb C.2.2.2.1 hd)
  exact ⟨T1, h1, _, X1, e1, Fr.snoc X1 N ha, by rw [W1.size]; exact hn', ⟨Keep.of_wr W1, A.set W1 (own_idx hj).1⟩, stp⟩
theorem WP.castore {j : Int32} {x : Int32} (i : Nat) (hd : decode B.bytes pc = .ok (.castore, 1)) (A : Av Z h a .char vs) (hj : j.toInt = (i : Int)) (hi : i < vs.length) (ha : n0 ≤ a) (hp : pc + 1 = pc') (H : ∀ h', Keep h h' [a] → Av Z h' a .char (vs.set i (.int (nar .char x))) → WP l B Z n0 Q h' cs sl pc' ls st) : WP l B Z n0 Q h cs sl pc ls (.int x :: .int j :: .ref a :: st) := by
  subst hp
  obtain ⟨cl, Ar, r, q⟩ := id A
  obtain ⟨g1, -⟩ := Av.place r hj (List.getElem?_eq_getElem hi)
  refine WP.stepT (P := fun h' => Keep h h' [a] ∧ Av Z h' a .char (vs.set i (.int (nar .char x)))) ?_ (fun h' q => H h' q.1 q.2)
  intro p e s m args below meth c T L C X hT N hn'
  obtain ⟨T1, h1, X1, e1, W1, stp⟩ := stC X C.1 C.2.1 hT Ar g1 (g := mkF m pc ls (.int x :: .int j :: .ref a :: st)) rfl rfl (hb C.2.2.2.1 hd)
  exact ⟨T1, h1, _, X1, e1, Fr.snoc X1 N ha, by rw [W1.size]; exact hn', ⟨Keep.of_wr W1, A.set W1 (own_idx hj).1⟩, stp⟩
theorem WP.bastoreB {j : Int32} {x : Int32} (i : Nat) (hd : decode B.bytes pc = .ok (.bastore, 1)) (A : Av Z h a .byte vs) (hj : j.toInt = (i : Int)) (hi : i < vs.length) (ha : n0 ≤ a) (hp : pc + 1 = pc') (H : ∀ h', Keep h h' [a] → Av Z h' a .byte (vs.set i (.int (nar .byte x))) → WP l B Z n0 Q h' cs sl pc' ls st) : WP l B Z n0 Q h cs sl pc ls (.int x :: .int j :: .ref a :: st) := by
  subst hp
  obtain ⟨cl, Ar, r, q⟩ := id A
  obtain ⟨g1, -⟩ := Av.place r hj (List.getElem?_eq_getElem hi)
  refine WP.stepT (P := fun h' => Keep h h' [a] ∧ Av Z h' a .byte (vs.set i (.int (nar .byte x)))) ?_ (fun h' q => H h' q.1 q.2)
  intro p e s m args below meth c T L C X hT N hn'
  obtain ⟨T1, h1, X1, e1, W1, stp⟩ := stB X C.1 C.2.1 hT Ar g1 (g := mkF m pc ls (.int x :: .int j :: .ref a :: st)) rfl rfl (hb C.2.2.2.1 hd)
  exact ⟨T1, h1, _, X1, e1, Fr.snoc X1 N ha, by rw [W1.size]; exact hn', ⟨Keep.of_wr W1, A.set W1 (own_idx hj).1⟩, stp⟩
theorem WP.bastoreZ {j : Int32} {x : Int32} (i : Nat) (hd : decode B.bytes pc = .ok (.bastore, 1)) (A : Av Z h a .boolean vs) (hj : j.toInt = (i : Int)) (hi : i < vs.length) (ha : n0 ≤ a) (hp : pc + 1 = pc') (H : ∀ h', Keep h h' [a] → Av Z h' a .boolean (vs.set i (.int (nar .boolean x))) → WP l B Z n0 Q h' cs sl pc' ls st) : WP l B Z n0 Q h cs sl pc ls (.int x :: .int j :: .ref a :: st) := by
  subst hp
  obtain ⟨cl, Ar, r, q⟩ := id A
  obtain ⟨g1, -⟩ := Av.place r hj (List.getElem?_eq_getElem hi)
  refine WP.stepT (P := fun h' => Keep h h' [a] ∧ Av Z h' a .boolean (vs.set i (.int (nar .boolean x)))) ?_ (fun h' q => H h' q.1 q.2)
  intro p e s m args below meth c T L C X hT N hn'
  obtain ⟨T1, h1, X1, e1, W1, stp⟩ := stZ X C.1 C.2.1 hT Ar g1 (g := mkF m pc ls (.int x :: .int j :: .ref a :: st)) rfl rfl (hb C.2.2.2.1 hd)
  exact ⟨T1, h1, _, X1, e1, Fr.snoc X1 N ha, by rw [W1.size]; exact hn', ⟨Keep.of_wr W1, A.set W1 (own_idx hj).1⟩, stp⟩
/-! objects: the fields that the sheet lays, in one list -/
abbrev OLay : Type := List (String × String × String)
def Ob (Z : State) (h : Heap) (a : Addr) (C : String) (lay : OLay) (vs : List Value) : Prop := Exa Z h a C ∧ lay.length = vs.length ∧ ∀ (i : Nat) (O n d : String) (v : Value), lay[i]? = some (O, n, d) → vs[i]? = some v → Fld Z h a O n d v
def OLaids (Z : State) (a0 : Array Value) (C : String) (lay : OLay) : Prop := ∀ q ∈ lay, Laid Z a0 C q.1 q.2.1 q.2.2 ∧ ∃ t, parseFieldDescriptor q.2.2 = some t
variable {Cl O n d : String} {lay : OLay} {v : Value}
theorem Ob.lt (A : Ob Z h a Cl lay vs) : a < h.size := A.1.lt
theorem Ob.keep (A : Ob Z h a Cl lay vs) (K : Keep h h' ws) (q : a ∉ ws) : Ob Z h' a Cl lay vs := ⟨A.1.keep K, A.2.1, fun i O n d v h1 h2 => (A.2.2 i O n d v h1 h2).keep K q⟩
theorem Ob.fld (A : Ob Z h a Cl lay vs) (i : Nat) (h1 : lay[i]? = some (O, n, d)) (h2 : vs[i]? = some v) : Fld Z h a O n d v := A.2.2 i O n d v h1 h2
theorem Ob.put {i : Nat} (A : Ob Z h a Cl lay vs) (La : OLaids Z a0 Cl lay) (hnd : (lay.map fun q => q.2.1).Nodup) (h1 : lay[i]? = some (O, n, d)) (W : Wr h h' a (Jvm.RoadKit.slotOf Z O n d) v) : Ob Z h' a Cl lay (vs.set i v) := by
  refine ⟨A.1.wr W, by simpa using A.2.1, fun j O' n' d' v' g1 g2 => ?_⟩
  by_cases e : i = j
  · subst e
    cases h1.symm.trans g1
    have hi : i < vs.length := by rw [← A.2.1]; exact (List.getElem?_eq_some_iff.mp h1).1
    rw [List.getElem?_set_self hi] at g2
    cases g2
    exact (A.fld i h1 (List.getElem?_eq_getElem hi)).same W
  · rw [List.getElem?_set_ne e] at g2
    refine (A.fld j g1 g2).other W (Or.inr ?_)
    obtain ⟨l1, t1, p1⟩ := La _ (List.mem_of_getElem? g1)
    obtain ⟨l2, t2, p2⟩ := La _ (List.mem_of_getElem? h1)
    refine slot_ne l1 l2 (fun q => ?_) p1 p2
    have k1 : (lay.map fun q => q.2.1)[j]? = some n' := by simp [g1]
    have k2 : (lay.map fun q => q.2.1)[i]? = some n := by simp [h1]
    obtain ⟨m1, f1⟩ := List.getElem?_eq_some_iff.mp k1
    obtain ⟨m2, f2⟩ := List.getElem?_eq_some_iff.mp k2
    have pw := List.pairwise_iff_getElem.mp hnd
    rcases Nat.lt_or_gt_of_ne e with c | c
    · exact pw i j m2 m1 c (f2.trans ((show n = n' from q.symm).trans f1.symm))
    · exact pw j i m1 m2 c (f1.trans ((show n' = n from q).trans f2.symm))
theorem WP.getf {idx i : Nat} (hd : decode B.bytes pc = .ok (.getfield idx, 3)) (w : (Cond.fieldLink B.own idx O n d).before a0 Z = true) (A : Ob Z h a Cl lay vs) (h1 : lay[i]? = some (O, n, d)) (h2 : vs[i]? = some v) (hp : pc + 3 = pc') (H : WP l B Z n0 Q h cs sl pc' ls (v :: st)) : WP l B Z n0 Q h cs sl pc ls (.ref a :: st) := by
  subst hp
  intro p e s m args below meth c T L C X hT N hn
  obtain ⟨T1, X1, e1, stp⟩ := getF X C.1 C.2.1 C.2.2.1 (host := "") (Or.inl w) Via.refl hT (A.fld i h1 h2) (g := mkF m pc ls (.ref a :: st)) rfl rfl (hb C.2.2.2.1 hd)
  obtain ⟨U, v', L', a1, rr⟩ := H p e s m args below meth c T1 _ C X1 e1 N hn
  exact ⟨U, v', L', stp _ a1, rr⟩
theorem WP.putf {idx i kk : Nat} {t : FieldType} (hd : decode B.bytes pc = .ok (.putfield idx, 3)) (w : (Cond.fieldLink B.own idx O n d).before a0 Z = true) (A : Ob Z h a Cl lay vs) (La : OLaids Z a0 Cl lay) (hnd : (lay.map fun q => q.2.1).Nodup) (h1 : lay[i]? = some (O, n, d))
    (hL : (Cond.lays Cl O n d).before a0 Z = true ∨ ((Cond.laysFinal Cl O n d).before a0 Z = true ∧ B.own = O ∧ B.mname = "<init>")) (wi : (Cond.instantiable Cl kk).before a0 Z = true) (ht : parseFieldDescriptor d = some t) (hnw : narrow t v = v) (hf : fits t v = true) (ha : n0 ≤ a) (hp : pc + 3 = pc')
    (H : ∀ h', Keep h h' [a] → Ob Z h' a Cl lay (vs.set i v) → WP l B Z n0 Q h' cs sl pc' ls st) : WP l B Z n0 Q h cs sl pc ls (v :: .ref a :: st) := by
  subst hp
  have hi : i < vs.length := by rw [← A.2.1]; exact (List.getElem?_eq_some_iff.mp h1).1
  refine WP.stepT (P := fun h' => Keep h h' [a] ∧ Ob Z h' a Cl lay (vs.set i v)) ?_ (fun h' q => H h' q.1 q.2)
  intro p e s m args below meth c T L C X hT N hn'
  obtain ⟨T1, h2, X1, e1, W1, stp⟩ := putF X C.1 C.2.1 C.2.2.1 (host := "") (Or.inl w) Via.refl hT (A.fld i h1 (List.getElem?_eq_getElem hi)) A.1 (hL.imp id fun q => ⟨q.1, q.2.1, C.2.2.2.2.2.2.2.trans q.2.2⟩) wi ht hnw hf (g := mkF m pc ls (v :: .ref a :: st)) rfl rfl (hb C.2.2.2.1 hd)
  exact ⟨T1, h2, _, X1, e1, Fr.snoc X1 N ha, by rw [W1.size]; exact hn', ⟨Keep.of_wr W1, A.put La hnd h1 W1⟩, stp⟩
theorem WP.newobj {idx k : Nat} (hd : decode B.bytes pc = .ok (.new idx, 3)) (w : (Cond.classLink B.own idx Cl).before a0 Z = true) (wi : (Cond.instantiable Cl k).before a0 Z = true) (wz : (Cond.initialized Cl).before a0 Z = true) (La : OLaids Z a0 Cl lay) (hvs : lay.map (fun q => (parseFieldDescriptor q.2.2).map defaultValue) = vs.map some) (hc : cs + 1 ≤ B.room.cells) (hs : sl + k ≤ B.room.slots) (hp : pc + 3 = pc')
    (H : ∀ b h', b = h.size → n0 ≤ b → Keep h h' [] → Ob Z h' b Cl lay vs → WP l B Z n0 Q h' (cs + 1) (sl + k) pc' ls (.ref b :: st)) : WP l B Z n0 Q h cs sl pc ls st := by
  subst hp
  refine WP.stepT (P := fun h' => Keep h h' [] ∧ n0 ≤ h.size ∧ Ob Z h' h.size Cl lay vs) ?_ (fun h' q => H h.size h' rfl q.2.1 q.1 q.2.2)
  intro p e s m args below meth c T L C X hT N hn'
  obtain ⟨T1, h1, X1, e1, E1, A1, D1, -, stp⟩ := newO X C.1 C.2.1 C.2.2.1 w wi wz hT (g := mkF m pc ls st) rfl (hb C.2.2.2.1 hd) hc hs
  refine ⟨T1, h1, L, X1, e1, N, Nat.le_trans hn' E1.1, ⟨Keep.of_ext E1, hn', A1, by simpa using congrArg List.length hvs, fun i O n d v g1 g2 => ?_⟩, stp⟩
  obtain ⟨l1, t1, p1⟩ := La _ (List.mem_of_getElem? g1)
  have k1 := congrArg (fun z => z[i]?) hvs
  simp only [List.getElem?_map, g1, g2, Option.map_some] at k1
  rw [show parseFieldDescriptor d = some t1 from p1] at k1
  simp only [Option.map_some, Option.some.injEq] at k1
  rw [← k1]
  exact D1 l1 p1
end W
end Jvm.OwnWP
namespace Jvm.OwnWP
open Sem ClassFile Op Lib Jvm.RoadKit
theorem own_r32 (x : Int32) : -2147483648 ≤ x.toInt ∧ x.toInt < 2147483648 := ⟨x.le_toInt, x.toInt_lt⟩
theorem own_r64 (x : Int64) : -9223372036854775808 ≤ x.toInt ∧ x.toInt < 9223372036854775808 := ⟨x.le_toInt, x.toInt_lt⟩
theorem own_iadd {x y : Int32} (h1 : -2147483648 ≤ x.toInt + y.toInt) (h2 : x.toInt + y.toInt < 2147483648) : (x + y).toInt = x.toInt + y.toInt := by have := c_iadd x y; have := own_r32 (x + y); omega
theorem own_isub {x y : Int32} (h1 : -2147483648 ≤ x.toInt - y.toInt) (h2 : x.toInt - y.toInt < 2147483648) : (x - y).toInt = x.toInt - y.toInt := by have := c_isub x y; have := own_r32 (x - y); omega
theorem own_ladd {x y : Int64} (h1 : -9223372036854775808 ≤ x.toInt + y.toInt) (h2 : x.toInt + y.toInt < 9223372036854775808) : (x + y).toInt = x.toInt + y.toInt := by have := c_ladd x y; have := own_r64 (x + y); omega
theorem own_lsub {x y : Int64} (h1 : -9223372036854775808 ≤ x.toInt - y.toInt) (h2 : x.toInt - y.toInt < 9223372036854775808) : (x - y).toInt = x.toInt - y.toInt := by have := c_lsub x y; have := own_r64 (x - y); omega
theorem own_mask (x m : Int32) (k : Nat) (P : Int) (hk : k ≤ 31) (hm : m.toBitVec.toNat = 2 ^ k - 1) (hP : ((2 ^ k : Nat) : Int) = P) : (x &&& m).toInt = x.toInt % P := by rw [← hP]; exact c_mask x m k hk hm
theorem own_maskL (x m : Int64) (k : Nat) (P : Int) (hk : k ≤ 63) (hm : m.toBitVec.toNat = 2 ^ k - 1) (hP : ((2 ^ k : Nat) : Int) = P) : (x &&& m).toInt = x.toInt % P := by rw [← hP]; exact c_maskL x m k hk hm
theorem own_irem {x y : Int32} {d : Int} (hy : y.toInt = d) (h0 : 0 ≤ x.toInt) : (x % y).toInt = x.toInt % d := (c_irem x y d hy).1 h0
theorem own_ushr (x q : Int32) (k : Nat) (P : Int) (hk : q.toBitVec.toNat % 32 = k) (h0 : 0 < k) (hP : ((2 ^ k : Nat) : Int) = P) : (ushr x q).toInt = (x.toInt % 4294967296) / P := by rw [← hP]; exact c_iushr x q k hk h0
theorem own_ishr (x q : Int32) (k : Nat) (P : Int) (hk : q.toBitVec.toNat % 32 = k) (hP : ((2 ^ k : Nat) : Int) = P) : (x >>> (q &&& 31)).toInt = x.toInt / P := by rw [← hP]; exact c_ishr x q k hk
theorem own_nar1 : nar .boolean 1 = 1 := by decide
theorem own_nar0 : nar .boolean 0 = 0 := by decide
theorem own_q1 : (some (Value.int (nar .boolean 1))) = some (Value.int 1) := congrArg (fun z => some (Value.int z)) own_nar1
theorem own_q0 : (some (Value.int (nar .boolean 0))) = some (Value.int 0) := congrArg (fun z => some (Value.int z)) own_nar0
theorem own_e32 {x y : Int32} (h : x.toInt = y.toInt) : x = y := Int32.toInt_inj.mp h
theorem own_e64 {x y : Int64} (h : x.toInt = y.toInt) : x = y := Int64.toInt_inj.mp h
end Jvm.OwnWP
namespace Jvm.OwnWP
theorem own_getI (xs : List Int32) (i : Nat) (h : i < xs.length) : ∃ y, (xs.map Value.int)[i]? = some (Value.int y) := ⟨xs[i], by simp [h]⟩
theorem own_getJ (xs : List Int64) (i : Nat) (h : i < xs.length) : ∃ y, (xs.map Value.long)[i]? = some (Value.long y) := ⟨xs[i], by simp [h]⟩
end Jvm.OwnWP
namespace Jvm.OwnWP
theorem own_nil {a : Addr} : a ∉ ([] : List Addr) := nofun
theorem own_cons {a b : Addr} {ws : List Addr} (h : a ≠ b) (h' : a ∉ ws) : a ∉ b :: ws := fun q => (List.mem_cons.mp q).elim h h'
end Jvm.OwnWP
namespace Jvm.OwnWP
theorem own_all0 {P : Addr → Prop} : ∀ x ∈ ([] : List Addr), P x := fun _ q => nomatch q
theorem own_all {P : Addr → Prop} {a : Addr} {ws : List Addr} (h : P a) (h' : ∀ x ∈ ws, P x) : ∀ x ∈ a :: ws, P x := fun x q => (List.mem_cons.mp q).elim (fun e => e ▸ h) (h' x)
end Jvm.OwnWP
namespace Jvm.OwnWP
open Sem ClassFile Op Lib Jvm.Stand Jvm.Free Jvm.LawKit Jvm.RoadKit
def own_fill : List Value → List Slot
  | [] => []
  | v :: r => if v.category = 2 then .val v :: .second :: own_fill r else .val v :: own_fill r
def own_push (acc : Array Slot) (v : Value) : Array Slot := if v.category = 2 then (acc.push (Slot.val v)).push Slot.second else acc.push (Slot.val v)
theorem own_fold (as : List Value) (acc : Array Slot) : as.foldl own_push acc = acc ++ (own_fill as).toArray := by
  induction as generalizing acc with
  | nil => simp [own_fill]
  | cons v r ih =>
    simp only [List.foldl_cons, own_fill]
    rw [ih]
    unfold own_push
    split <;> simp
theorem own_entry {m : MethodId} {as : List Value} {n : Nat} {fs : List Slot} (k : Nat) (h1 : own_fill as = fs) (h2 : fs.length + k = n) : entryFrame m as.toArray n = mkF m 0 (fs ++ List.replicate k Slot.unset).toArray [] := by
  subst h1 h2
  have e0 : as.toArray.foldl own_push #[] = (own_fill as).toArray := by
    simp only [List.size_toArray, List.foldl_toArray']
    rw [own_fold]; simp
  have e : argsToLocals as.toArray ((own_fill as).length + k) = (own_fill as ++ List.replicate k Slot.unset).toArray := by
    show as.toArray.foldl own_push #[] ++ Array.replicate ((own_fill as).length + k - (as.toArray.foldl own_push #[]).size) Slot.unset = _
    rw [e0]
    simp
  show ({ method := m, pc := 0, locals := argsToLocals as.toArray ((own_fill as).length + k), stack := [], locked := none } : JFrame) = _
  rw [e]
end Jvm.OwnWP
namespace Jvm.OwnWP
theorem own_nz {y : Int32} (h : y.toInt ≠ 0) : y ≠ 0 := fun q => h (by rw [q]; rfl)
theorem own_nzL {y : Int64} (h : y.toInt ≠ 0) : y ≠ 0 := fun q => h (by rw [q]; rfl)
end Jvm.OwnWP
namespace Jvm.OwnWP
open Sem ClassFile Op Lib Jvm.Stand Jvm.Free Jvm.LawKit Jvm.RoadKit
section W
variable {l : Launch} {B : Bod} {Z : State} {n0 : Nat} {Q : Option Value → Heap → Prop} {h : Heap} {cs sl pc pc' : Nat} {ls ls' : Array Slot} {st rest : List Value} {a0 : Array Value}
/-- a private method by invokevirtual; that its class is no interface is read off another 'selects' word of that class -/
theorem WP.callP {y y0 : MethodName} {By : Bod} {Cl : String} {as : List Value} {a : Addr} {idx : Nat} {Qy : Option Value → Heap → Prop} {ps : List FieldType} {r : Option FieldType}
    (hd : decode B.bytes pc = .ok (.invokevirtual idx, 3)) (w1 : (Cond.methodLink B.own idx y).before a0 Z = true) (w2 : (Cond.instanceMethod y).before a0 Z = true) (w5 : (Cond.privateMethod y).before a0 Z = true) (w6 : (Cond.selects Cl y0 y0).before a0 Z = true) (w3 : (Cond.initialized y.cls).before a0 Z = true) (w4 : (Cond.code y By.bytes By.maxL By.ret).before a0 Z = true) (hcl : y0.cls = y.cls)
    (hy : y.cls ≠ "java/lang/invoke/MethodHandle" ∧ y.cls ≠ "java/lang/invoke/VarHandle") {Ce : String} (E : Exa Z h a Ce) (hM : OMet l y By Z n0 (.ref a :: as).toArray h Qy) (hpd : parseMethodDescriptor y.desc = some ⟨ps, r⟩) (hlen : as.length = ps.length) (hst : st = as.reverse ++ .ref a :: rest) (hls : ls.size = B.maxL)
    (hfr : By.room.frames + 1 ≤ B.room.frames) (hlo : (rest.map fun v => v.category).sum + (By.maxL + 11) + By.room.locals ≤ B.room.locals) (hc : cs + By.room.cells ≤ B.room.cells) (hs : sl + By.room.slots ≤ B.room.slots) (hp : pc + 3 = pc')
    (H : ∀ v h', Qy v h' → WP l B Z n0 Q h' (cs + By.room.cells) (sl + By.room.slots) pc' ls (v.toList ++ rest)) : WP l B Z n0 Q h cs sl pc ls st := by
  subst hp
  intro p e s m args below meth c T L C X hT N hn
  obtain ⟨hx, hZ, hown, hby, hml, hret, hlk, hnm⟩ := C
  obtain ⟨cq, q1, q2⟩ := E.cell
  have hpr : s.PrivateAt y := Cond.privateMethod_at (mvP hZ w5 (args := #[]))
  have hsel : (Cond.selects y.cls y y).before args s = true := by
    obtain ⟨c2, r2, m2, -, -, q3, -, kP, hkP, hkPi⟩ := Cond.selects_spec (mvT (args := args) hZ w6)
    have hc2 := findClass_of_methodNamed q3
    rw [hcl] at hc2
    exact selects_self_of_private hc2 hkP hkPi hpr (mvT hZ w2) hy
  obtain ⟨v, _, ⟨T1, L1, k1, n1⟩, -, X1, ⟨Lc, hQ, l1, y1, z1⟩, stp⟩ := X.privateBack hx (y := y) hown (mvT hZ w1) (mvT hZ w2) hsel hpr (mvT hZ w4) hy (backOf (W := (rest.map fun v => v.category).sum) (Q := fun v h' L => Qy v h' ∧ Fr n0 L ∧ n0 ≤ h'.size) (hM hn []) hZ w4 w3 hfr hlo) (g := mkF m pc ls st) rfl (by rw [hml]; exact hls) (Steps.refl _) (a := a) (cell := cq) (by rw [hT]; exact q1) q2 (argsL := as) (rest := rest) (lenOf hpd hlen) hst (by show 2 * 0 + _ ≤ _; omega) (hb hby hd) (fun _ _ => ⟨rfl, hT, hc, hs⟩)
  dsimp only [Pt.U, Pt.locs, Pt.cells, Pt.slots] at X1 l1 y1 z1 stp hQ
  subst l1 y1 z1
  obtain ⟨U, v', L', a1, rr⟩ := H v T1.heap hQ.1 p e s m args below meth c T1 _ ⟨hx, hZ, hown, hby, hml, hret, hlk, hnm⟩ X1 rfl (N.app hQ.2.1) hQ.2.2
  exact ⟨U, v', L', stp.trans a1, rr⟩
end W
end Jvm.OwnWP


namespace Jvm.Pilot.@@N@@
open Jvm Jvm.ClassFile Sem Op Lib Jvm.Free Jvm.Stand Jvm.LawKit Jvm.RoadKit Jvm.OwnWP Bundle Jvm.Pilot.@@N@@.Jvm.D

abbrev HW (Z : State) (a0 : Array Value) : Prop := ∀ d ∈ tables_1, d.before a0 Z = true
theorem w0 {Z : State} {a0 : Array Value} (hw : HW Z a0) : ((Jvm.Cond.constant "com/example/singlet/singlet/propagation/IndexQueueAddPinLaw" (7 : Nat) (2147483647 : Int32))).before a0 Z = true := hw _ (List.mem_of_getElem? (i := 0) rfl)
theorem w1 {Z : State} {a0 : Array Value} (hw : HW Z a0) : ((Jvm.Cond.classLink "com/example/singlet/singlet/propagation/IndexQueueAddPinLaw" (8 : Nat) "com/example/singlet/singlet/propagation/IndexQueue")).before a0 Z = true := hw _ (List.mem_of_getElem? (i := 1) rfl)
theorem w2 {Z : State} {a0 : Array Value} (hw : HW Z a0) : ((Jvm.Cond.instantiable "com/example/singlet/singlet/propagation/IndexQueue" (4 : Nat))).before a0 Z = true := hw _ (List.mem_of_getElem? (i := 2) rfl)
theorem w3 {Z : State} {a0 : Array Value} (hw : HW Z a0) : ((Jvm.Cond.initialized "com/example/singlet/singlet/propagation/IndexQueue")).before a0 Z = true := hw _ (List.mem_of_getElem? (i := 3) rfl)
theorem w4 {Z : State} {a0 : Array Value} (hw : HW Z a0) : ((Jvm.Cond.methodLink "com/example/singlet/singlet/propagation/IndexQueueAddPinLaw" (10 : Nat) ({ cls := "com/example/singlet/singlet/propagation/IndexQueue", name := "<init>", desc := "(I)V" } : Jvm.MethodName))).before a0 Z = true := hw _ (List.mem_of_getElem? (i := 4) rfl)
theorem w5 {Z : State} {a0 : Array Value} (hw : HW Z a0) : ((Jvm.Cond.instanceMethod ({ cls := "com/example/singlet/singlet/propagation/IndexQueue", name := "<init>", desc := "(I)V" } : Jvm.MethodName))).before a0 Z = true := hw _ (List.mem_of_getElem? (i := 5) rfl)
theorem w6 {Z : State} {a0 : Array Value} (hw : HW Z a0) : ((Jvm.Cond.code ({ cls := "com/example/singlet/singlet/propagation/IndexQueue", name := "<init>", desc := "(I)V" } : Jvm.MethodName) prog_44_method_1_code (2 : Nat) (Option.none : Option Jvm.ClassFile.FieldType))).before a0 Z = true := hw _ (List.mem_of_getElem? (i := 6) rfl)
theorem w7 {Z : State} {a0 : Array Value} (hw : HW Z a0) : ((Jvm.Cond.methodLink "com/example/singlet/singlet/propagation/IndexQueue" (1 : Nat) ({ cls := "java/lang/Object", name := "<init>", desc := "()V" } : Jvm.MethodName))).before a0 Z = true := hw _ (List.mem_of_getElem? (i := 7) rfl)
theorem w8 {Z : State} {a0 : Array Value} (hw : HW Z a0) : ((Jvm.Cond.instanceMethod ({ cls := "java/lang/Object", name := "<init>", desc := "()V" } : Jvm.MethodName))).before a0 Z = true := hw _ (List.mem_of_getElem? (i := 8) rfl)
theorem w9 {Z : State} {a0 : Array Value} (hw : HW Z a0) : ((Jvm.Cond.code ({ cls := "java/lang/Object", name := "<init>", desc := "()V" } : Jvm.MethodName) object_method_1_code (1 : Nat) (Option.none : Option Jvm.ClassFile.FieldType))).before a0 Z = true := hw _ (List.mem_of_getElem? (i := 9) rfl)
theorem w10 {Z : State} {a0 : Array Value} (hw : HW Z a0) : ((Jvm.Cond.arrayClass Jvm.ClassFile.FieldType.int)).before a0 Z = true := hw _ (List.mem_of_getElem? (i := 10) rfl)
theorem w11 {Z : State} {a0 : Array Value} (hw : HW Z a0) : ((Jvm.Cond.fieldLink "com/example/singlet/singlet/propagation/IndexQueue" (16 : Nat) "com/example/singlet/singlet/propagation/IndexQueue" "ring" "[I")).before a0 Z = true := hw _ (List.mem_of_getElem? (i := 11) rfl)
theorem w12 {Z : State} {a0 : Array Value} (hw : HW Z a0) : ((Jvm.Cond.laysFinal "com/example/singlet/singlet/propagation/IndexQueue" "com/example/singlet/singlet/propagation/IndexQueue" "ring" "[I")).before a0 Z = true := hw _ (List.mem_of_getElem? (i := 12) rfl)
theorem w13 {Z : State} {a0 : Array Value} (hw : HW Z a0) : ((Jvm.Cond.arrayClass Jvm.ClassFile.FieldType.boolean)).before a0 Z = true := hw _ (List.mem_of_getElem? (i := 13) rfl)
theorem w14 {Z : State} {a0 : Array Value} (hw : HW Z a0) : ((Jvm.Cond.fieldLink "com/example/singlet/singlet/propagation/IndexQueue" (22 : Nat) "com/example/singlet/singlet/propagation/IndexQueue" "queued" "[Z")).before a0 Z = true := hw _ (List.mem_of_getElem? (i := 14) rfl)
theorem w15 {Z : State} {a0 : Array Value} (hw : HW Z a0) : ((Jvm.Cond.laysFinal "com/example/singlet/singlet/propagation/IndexQueue" "com/example/singlet/singlet/propagation/IndexQueue" "queued" "[Z")).before a0 Z = true := hw _ (List.mem_of_getElem? (i := 15) rfl)
theorem w16 {Z : State} {a0 : Array Value} (hw : HW Z a0) : ((Jvm.Cond.methodLink "com/example/singlet/singlet/propagation/IndexQueueAddPinLaw" (13 : Nat) ({ cls := "com/example/singlet/singlet/propagation/IndexQueue", name := "add", desc := "(I)Z" } : Jvm.MethodName))).before a0 Z = true := hw _ (List.mem_of_getElem? (i := 16) rfl)
theorem w17 {Z : State} {a0 : Array Value} (hw : HW Z a0) : ((Jvm.Cond.declares ({ cls := "com/example/singlet/singlet/propagation/IndexQueue", name := "add", desc := "(I)Z" } : Jvm.MethodName))).before a0 Z = true := hw _ (List.mem_of_getElem? (i := 17) rfl)
theorem w18 {Z : State} {a0 : Array Value} (hw : HW Z a0) : ((Jvm.Cond.instanceMethod ({ cls := "com/example/singlet/singlet/propagation/IndexQueue", name := "add", desc := "(I)Z" } : Jvm.MethodName))).before a0 Z = true := hw _ (List.mem_of_getElem? (i := 18) rfl)
theorem w19 {Z : State} {a0 : Array Value} (hw : HW Z a0) : ((Jvm.Cond.selects "com/example/singlet/singlet/propagation/IndexQueue" ({ cls := "com/example/singlet/singlet/propagation/IndexQueue", name := "add", desc := "(I)Z" } : Jvm.MethodName) ({ cls := "com/example/singlet/singlet/propagation/IndexQueue", name := "add", desc := "(I)Z" } : Jvm.MethodName))).before a0 Z = true := hw _ (List.mem_of_getElem? (i := 19) rfl)
theorem w20 {Z : State} {a0 : Array Value} (hw : HW Z a0) : ((Jvm.Cond.code ({ cls := "com/example/singlet/singlet/propagation/IndexQueue", name := "add", desc := "(I)Z" } : Jvm.MethodName) prog_44_method_2_code (2 : Nat) (Option.some Jvm.ClassFile.FieldType.boolean))).before a0 Z = true := hw _ (List.mem_of_getElem? (i := 20) rfl)
theorem w21 {Z : State} {a0 : Array Value} (hw : HW Z a0) : ((Jvm.Cond.fieldLink "com/example/singlet/singlet/propagation/IndexQueue" (26 : Nat) "com/example/singlet/singlet/propagation/IndexQueue" "head" "I")).before a0 Z = true := hw _ (List.mem_of_getElem? (i := 21) rfl)
theorem w22 {Z : State} {a0 : Array Value} (hw : HW Z a0) : ((Jvm.Cond.lays "com/example/singlet/singlet/propagation/IndexQueue" "com/example/singlet/singlet/propagation/IndexQueue" "head" "I")).before a0 Z = true := hw _ (List.mem_of_getElem? (i := 22) rfl)
theorem w23 {Z : State} {a0 : Array Value} (hw : HW Z a0) : ((Jvm.Cond.fieldLink "com/example/singlet/singlet/propagation/IndexQueue" (30 : Nat) "com/example/singlet/singlet/propagation/IndexQueue" "size" "I")).before a0 Z = true := hw _ (List.mem_of_getElem? (i := 23) rfl)
theorem w24 {Z : State} {a0 : Array Value} (hw : HW Z a0) : ((Jvm.Cond.lays "com/example/singlet/singlet/propagation/IndexQueue" "com/example/singlet/singlet/propagation/IndexQueue" "size" "I")).before a0 Z = true := hw _ (List.mem_of_getElem? (i := 24) rfl)
theorem w25 {Z : State} {a0 : Array Value} (hw : HW Z a0) : ((Jvm.Cond.methodLink "com/example/singlet/singlet/propagation/IndexQueueAddPinLaw" (21 : Nat) ({ cls := "com/example/singlet/singlet/propagation/IndexQueue", name := "size", desc := "()I" } : Jvm.MethodName))).before a0 Z = true := hw _ (List.mem_of_getElem? (i := 25) rfl)
theorem w26 {Z : State} {a0 : Array Value} (hw : HW Z a0) : ((Jvm.Cond.declares ({ cls := "com/example/singlet/singlet/propagation/IndexQueue", name := "size", desc := "()I" } : Jvm.MethodName))).before a0 Z = true := hw _ (List.mem_of_getElem? (i := 26) rfl)
theorem w27 {Z : State} {a0 : Array Value} (hw : HW Z a0) : ((Jvm.Cond.instanceMethod ({ cls := "com/example/singlet/singlet/propagation/IndexQueue", name := "size", desc := "()I" } : Jvm.MethodName))).before a0 Z = true := hw _ (List.mem_of_getElem? (i := 27) rfl)
theorem w28 {Z : State} {a0 : Array Value} (hw : HW Z a0) : ((Jvm.Cond.selects "com/example/singlet/singlet/propagation/IndexQueue" ({ cls := "com/example/singlet/singlet/propagation/IndexQueue", name := "size", desc := "()I" } : Jvm.MethodName) ({ cls := "com/example/singlet/singlet/propagation/IndexQueue", name := "size", desc := "()I" } : Jvm.MethodName))).before a0 Z = true := hw _ (List.mem_of_getElem? (i := 28) rfl)
theorem w29 {Z : State} {a0 : Array Value} (hw : HW Z a0) : ((Jvm.Cond.code ({ cls := "com/example/singlet/singlet/propagation/IndexQueue", name := "size", desc := "()I" } : Jvm.MethodName) prog_44_method_5_code (1 : Nat) (Option.some Jvm.ClassFile.FieldType.int))).before a0 Z = true := hw _ (List.mem_of_getElem? (i := 29) rfl)
theorem w30 {Z : State} {a0 : Array Value} (hw : HW Z a0) : ((Jvm.Cond.methodLink "com/example/singlet/singlet/propagation/IndexQueueAddPinLaw" (24 : Nat) ({ cls := "com/example/singlet/singlet/propagation/IndexQueue", name := "contains", desc := "(I)Z" } : Jvm.MethodName))).before a0 Z = true := hw _ (List.mem_of_getElem? (i := 30) rfl)
theorem w31 {Z : State} {a0 : Array Value} (hw : HW Z a0) : ((Jvm.Cond.declares ({ cls := "com/example/singlet/singlet/propagation/IndexQueue", name := "contains", desc := "(I)Z" } : Jvm.MethodName))).before a0 Z = true := hw _ (List.mem_of_getElem? (i := 31) rfl)
theorem w32 {Z : State} {a0 : Array Value} (hw : HW Z a0) : ((Jvm.Cond.instanceMethod ({ cls := "com/example/singlet/singlet/propagation/IndexQueue", name := "contains", desc := "(I)Z" } : Jvm.MethodName))).before a0 Z = true := hw _ (List.mem_of_getElem? (i := 32) rfl)
theorem w33 {Z : State} {a0 : Array Value} (hw : HW Z a0) : ((Jvm.Cond.selects "com/example/singlet/singlet/propagation/IndexQueue" ({ cls := "com/example/singlet/singlet/propagation/IndexQueue", name := "contains", desc := "(I)Z" } : Jvm.MethodName) ({ cls := "com/example/singlet/singlet/propagation/IndexQueue", name := "contains", desc := "(I)Z" } : Jvm.MethodName))).before a0 Z = true := hw _ (List.mem_of_getElem? (i := 33) rfl)
theorem w34 {Z : State} {a0 : Array Value} (hw : HW Z a0) : ((Jvm.Cond.code ({ cls := "com/example/singlet/singlet/propagation/IndexQueue", name := "contains", desc := "(I)Z" } : Jvm.MethodName) prog_44_method_4_code (2 : Nat) (Option.some Jvm.ClassFile.FieldType.boolean))).before a0 Z = true := hw _ (List.mem_of_getElem? (i := 34) rfl)
theorem w35 {Z : State} {a0 : Array Value} (hw : HW Z a0) : ((Jvm.Cond.methodLink "com/example/singlet/singlet/propagation/IndexQueueAddPinLaw" (17 : Nat) ({ cls := "com/example/singlet/singlet/propagation/IndexQueue", name := "poll", desc := "()I" } : Jvm.MethodName))).before a0 Z = true := hw _ (List.mem_of_getElem? (i := 35) rfl)
theorem w36 {Z : State} {a0 : Array Value} (hw : HW Z a0) : ((Jvm.Cond.declares ({ cls := "com/example/singlet/singlet/propagation/IndexQueue", name := "poll", desc := "()I" } : Jvm.MethodName))).before a0 Z = true := hw _ (List.mem_of_getElem? (i := 36) rfl)
theorem w37 {Z : State} {a0 : Array Value} (hw : HW Z a0) : ((Jvm.Cond.instanceMethod ({ cls := "com/example/singlet/singlet/propagation/IndexQueue", name := "poll", desc := "()I" } : Jvm.MethodName))).before a0 Z = true := hw _ (List.mem_of_getElem? (i := 37) rfl)
theorem w38 {Z : State} {a0 : Array Value} (hw : HW Z a0) : ((Jvm.Cond.selects "com/example/singlet/singlet/propagation/IndexQueue" ({ cls := "com/example/singlet/singlet/propagation/IndexQueue", name := "poll", desc := "()I" } : Jvm.MethodName) ({ cls := "com/example/singlet/singlet/propagation/IndexQueue", name := "poll", desc := "()I" } : Jvm.MethodName))).before a0 Z = true := hw _ (List.mem_of_getElem? (i := 38) rfl)
theorem w39 {Z : State} {a0 : Array Value} (hw : HW Z a0) : ((Jvm.Cond.code ({ cls := "com/example/singlet/singlet/propagation/IndexQueue", name := "poll", desc := "()I" } : Jvm.MethodName) prog_44_method_3_code (2 : Nat) (Option.some Jvm.ClassFile.FieldType.int))).before a0 Z = true := hw _ (List.mem_of_getElem? (i := 39) rfl)
theorem pd_0 : parseMethodDescriptor "(I)V" = some ⟨[.int], none⟩ := by decide +kernel
theorem pd_1 : parseMethodDescriptor "(I)Z" = some ⟨[.int], some .boolean⟩ := by decide +kernel
theorem pd_2 : parseMethodDescriptor "()I" = some ⟨[], some .int⟩ := by decide +kernel
theorem d1_0 : decode prog_44_method_1_code 0 = .ok (.aload_n 0, 1) := by decide +kernel
theorem d1_1 : decode prog_44_method_1_code 1 = .ok (.invokespecial 1, 3) := by decide +kernel
theorem d1_4 : decode prog_44_method_1_code 4 = .ok (.iload_n 1, 1) := by decide +kernel
theorem d1_5 : decode prog_44_method_1_code 5 = .ok (.ifCond .ge 17, 3) := by decide +kernel
theorem d1_22 : decode prog_44_method_1_code 22 = .ok (.aload_n 0, 1) := by decide +kernel
theorem d1_23 : decode prog_44_method_1_code 23 = .ok (.iload_n 1, 1) := by decide +kernel
theorem d1_24 : decode prog_44_method_1_code 24 = .ok (.newarray .int, 2) := by decide +kernel
theorem d1_26 : decode prog_44_method_1_code 26 = .ok (.putfield 16, 3) := by decide +kernel
theorem d1_29 : decode prog_44_method_1_code 29 = .ok (.aload_n 0, 1) := by decide +kernel
theorem d1_30 : decode prog_44_method_1_code 30 = .ok (.iload_n 1, 1) := by decide +kernel
theorem d1_31 : decode prog_44_method_1_code 31 = .ok (.newarray .boolean, 2) := by decide +kernel
theorem d1_33 : decode prog_44_method_1_code 33 = .ok (.putfield 22, 3) := by decide +kernel
theorem d1_36 : decode prog_44_method_1_code 36 = .ok (.return_, 1) := by decide +kernel
theorem d3_0 : decode prog_44_method_2_code 0 = .ok (.aload_n 0, 1) := by decide +kernel
theorem d3_1 : decode prog_44_method_2_code 1 = .ok (.getfield 22, 3) := by decide +kernel
theorem d3_4 : decode prog_44_method_2_code 4 = .ok (.iload_n 1, 1) := by decide +kernel
theorem d3_5 : decode prog_44_method_2_code 5 = .ok (.baload, 1) := by decide +kernel
theorem d3_6 : decode prog_44_method_2_code 6 = .ok (.ifCond .eq 5, 3) := by decide +kernel
theorem d3_9 : decode prog_44_method_2_code 9 = .ok (.iconst 0, 1) := by decide +kernel
theorem d3_10 : decode prog_44_method_2_code 10 = .ok (.ireturn, 1) := by decide +kernel
theorem d3_11 : decode prog_44_method_2_code 11 = .ok (.aload_n 0, 1) := by decide +kernel
theorem d3_12 : decode prog_44_method_2_code 12 = .ok (.getfield 22, 3) := by decide +kernel
theorem d3_15 : decode prog_44_method_2_code 15 = .ok (.iload_n 1, 1) := by decide +kernel
theorem d3_16 : decode prog_44_method_2_code 16 = .ok (.iconst 1, 1) := by decide +kernel
theorem d3_17 : decode prog_44_method_2_code 17 = .ok (.bastore, 1) := by decide +kernel
theorem d3_18 : decode prog_44_method_2_code 18 = .ok (.aload_n 0, 1) := by decide +kernel
theorem d3_19 : decode prog_44_method_2_code 19 = .ok (.getfield 16, 3) := by decide +kernel
theorem d3_22 : decode prog_44_method_2_code 22 = .ok (.aload_n 0, 1) := by decide +kernel
theorem d3_23 : decode prog_44_method_2_code 23 = .ok (.getfield 26, 3) := by decide +kernel
theorem d3_26 : decode prog_44_method_2_code 26 = .ok (.aload_n 0, 1) := by decide +kernel
theorem d3_27 : decode prog_44_method_2_code 27 = .ok (.getfield 30, 3) := by decide +kernel
theorem d3_30 : decode prog_44_method_2_code 30 = .ok (.iadd, 1) := by decide +kernel
theorem d3_31 : decode prog_44_method_2_code 31 = .ok (.aload_n 0, 1) := by decide +kernel
theorem d3_32 : decode prog_44_method_2_code 32 = .ok (.getfield 16, 3) := by decide +kernel
theorem d3_35 : decode prog_44_method_2_code 35 = .ok (.arraylength, 1) := by decide +kernel
theorem d3_36 : decode prog_44_method_2_code 36 = .ok (.irem, 1) := by decide +kernel
theorem d3_37 : decode prog_44_method_2_code 37 = .ok (.iload_n 1, 1) := by decide +kernel
theorem d3_38 : decode prog_44_method_2_code 38 = .ok (.iastore, 1) := by decide +kernel
theorem d3_39 : decode prog_44_method_2_code 39 = .ok (.aload_n 0, 1) := by decide +kernel
theorem d3_40 : decode prog_44_method_2_code 40 = .ok (.dup, 1) := by decide +kernel
theorem d3_41 : decode prog_44_method_2_code 41 = .ok (.getfield 30, 3) := by decide +kernel
theorem d3_44 : decode prog_44_method_2_code 44 = .ok (.iconst 1, 1) := by decide +kernel
theorem d3_45 : decode prog_44_method_2_code 45 = .ok (.iadd, 1) := by decide +kernel
theorem d3_46 : decode prog_44_method_2_code 46 = .ok (.putfield 30, 3) := by decide +kernel
theorem d3_49 : decode prog_44_method_2_code 49 = .ok (.iconst 1, 1) := by decide +kernel
theorem d3_50 : decode prog_44_method_2_code 50 = .ok (.ireturn, 1) := by decide +kernel
theorem d4_0 : decode prog_44_method_5_code 0 = .ok (.aload_n 0, 1) := by decide +kernel
theorem d4_1 : decode prog_44_method_5_code 1 = .ok (.getfield 30, 3) := by decide +kernel
theorem d4_4 : decode prog_44_method_5_code 4 = .ok (.ireturn, 1) := by decide +kernel
theorem d5_0 : decode prog_44_method_4_code 0 = .ok (.aload_n 0, 1) := by decide +kernel
theorem d5_1 : decode prog_44_method_4_code 1 = .ok (.getfield 22, 3) := by decide +kernel
theorem d5_4 : decode prog_44_method_4_code 4 = .ok (.iload_n 1, 1) := by decide +kernel
theorem d5_5 : decode prog_44_method_4_code 5 = .ok (.baload, 1) := by decide +kernel
theorem d5_6 : decode prog_44_method_4_code 6 = .ok (.ireturn, 1) := by decide +kernel
theorem d6_0 : decode prog_44_method_3_code 0 = .ok (.aload_n 0, 1) := by decide +kernel
theorem d6_1 : decode prog_44_method_3_code 1 = .ok (.getfield 30, 3) := by decide +kernel
theorem d6_4 : decode prog_44_method_3_code 4 = .ok (.ifCond .ne 13, 3) := by decide +kernel
theorem d6_17 : decode prog_44_method_3_code 17 = .ok (.aload_n 0, 1) := by decide +kernel
theorem d6_18 : decode prog_44_method_3_code 18 = .ok (.getfield 16, 3) := by decide +kernel
theorem d6_21 : decode prog_44_method_3_code 21 = .ok (.aload_n 0, 1) := by decide +kernel
theorem d6_22 : decode prog_44_method_3_code 22 = .ok (.getfield 26, 3) := by decide +kernel
theorem d6_25 : decode prog_44_method_3_code 25 = .ok (.iaload, 1) := by decide +kernel
theorem d6_26 : decode prog_44_method_3_code 26 = .ok (.istore_n 1, 1) := by decide +kernel
theorem d6_27 : decode prog_44_method_3_code 27 = .ok (.aload_n 0, 1) := by decide +kernel
theorem d6_28 : decode prog_44_method_3_code 28 = .ok (.getfield 22, 3) := by decide +kernel
theorem d6_31 : decode prog_44_method_3_code 31 = .ok (.iload_n 1, 1) := by decide +kernel
theorem d6_32 : decode prog_44_method_3_code 32 = .ok (.iconst 0, 1) := by decide +kernel
theorem d6_33 : decode prog_44_method_3_code 33 = .ok (.bastore, 1) := by decide +kernel
theorem d6_34 : decode prog_44_method_3_code 34 = .ok (.aload_n 0, 1) := by decide +kernel
theorem d6_35 : decode prog_44_method_3_code 35 = .ok (.aload_n 0, 1) := by decide +kernel
theorem d6_36 : decode prog_44_method_3_code 36 = .ok (.getfield 26, 3) := by decide +kernel
theorem d6_39 : decode prog_44_method_3_code 39 = .ok (.iconst 1, 1) := by decide +kernel
theorem d6_40 : decode prog_44_method_3_code 40 = .ok (.iadd, 1) := by decide +kernel
theorem d6_41 : decode prog_44_method_3_code 41 = .ok (.aload_n 0, 1) := by decide +kernel
theorem d6_42 : decode prog_44_method_3_code 42 = .ok (.getfield 16, 3) := by decide +kernel
theorem d6_45 : decode prog_44_method_3_code 45 = .ok (.arraylength, 1) := by decide +kernel
theorem d6_46 : decode prog_44_method_3_code 46 = .ok (.irem, 1) := by decide +kernel
theorem d6_47 : decode prog_44_method_3_code 47 = .ok (.putfield 26, 3) := by decide +kernel
theorem d6_50 : decode prog_44_method_3_code 50 = .ok (.aload_n 0, 1) := by decide +kernel
theorem d6_51 : decode prog_44_method_3_code 51 = .ok (.dup, 1) := by decide +kernel
theorem d6_52 : decode prog_44_method_3_code 52 = .ok (.getfield 30, 3) := by decide +kernel
theorem d6_55 : decode prog_44_method_3_code 55 = .ok (.iconst 1, 1) := by decide +kernel
theorem d6_56 : decode prog_44_method_3_code 56 = .ok (.isub, 1) := by decide +kernel
theorem d6_57 : decode prog_44_method_3_code 57 = .ok (.putfield 30, 3) := by decide +kernel
theorem d6_60 : decode prog_44_method_3_code 60 = .ok (.iload_n 1, 1) := by decide +kernel
theorem d6_61 : decode prog_44_method_3_code 61 = .ok (.ireturn, 1) := by decide +kernel
def B0 : Bod := ("com/example/singlet/singlet/propagation/IndexQueueAddPinLaw", "law", code, maxLocals, ret, room_1)
theorem pl0 : plainFor (⟨"com/example/singlet/singlet/propagation/IndexQueueAddPinLaw", "law", "(IIIII)Z"⟩ : MethodName) = true := plainFor_of_name (by first | (simp [plainName, overriddenIn]; done) | decide +kernel)
def B1 : Bod := ("com/example/singlet/singlet/propagation/IndexQueue", "<init>", prog_44_method_1_code, 2, none, ({ frames := 1, cells := 2, slots := 8, locals := 12 } : Room))
theorem pl1 : plainFor (⟨"com/example/singlet/singlet/propagation/IndexQueue", "<init>", "(I)V"⟩ : MethodName) = true := plainFor_of_name (by first | (simp [plainName, overriddenIn]; done) | decide +kernel)
def B3 : Bod := ("com/example/singlet/singlet/propagation/IndexQueue", "add", prog_44_method_2_code, 2, some .boolean, ({ frames := 0, cells := 0, slots := 0, locals := 0 } : Room))
theorem pl3 : plainFor (⟨"com/example/singlet/singlet/propagation/IndexQueue", "add", "(I)Z"⟩ : MethodName) = true := plainFor_of_name (by first | (simp [plainName, overriddenIn]; done) | decide +kernel)
def B4 : Bod := ("com/example/singlet/singlet/propagation/IndexQueue", "size", prog_44_method_5_code, 1, some .int, ({ frames := 0, cells := 0, slots := 0, locals := 0 } : Room))
theorem pl4 : plainFor (⟨"com/example/singlet/singlet/propagation/IndexQueue", "size", "()I"⟩ : MethodName) = true := plainFor_of_name (by first | (simp [plainName, overriddenIn]; done) | decide +kernel)
def B5 : Bod := ("com/example/singlet/singlet/propagation/IndexQueue", "contains", prog_44_method_4_code, 2, some .boolean, ({ frames := 0, cells := 0, slots := 0, locals := 0 } : Room))
theorem pl5 : plainFor (⟨"com/example/singlet/singlet/propagation/IndexQueue", "contains", "(I)Z"⟩ : MethodName) = true := plainFor_of_name (by first | (simp [plainName, overriddenIn]; done) | decide +kernel)
def B6 : Bod := ("com/example/singlet/singlet/propagation/IndexQueue", "poll", prog_44_method_3_code, 2, some .int, ({ frames := 0, cells := 0, slots := 0, locals := 0 } : Room))
theorem pl6 : plainFor (⟨"com/example/singlet/singlet/propagation/IndexQueue", "poll", "()I"⟩ : MethodName) = true := plainFor_of_name (by first | (simp [plainName, overriddenIn]; done) | decide +kernel)
def L_IQ : OLay := [("com/example/singlet/singlet/propagation/IndexQueue", "ring", "[I"), ("com/example/singlet/singlet/propagation/IndexQueue", "queued", "[Z"), ("com/example/singlet/singlet/propagation/IndexQueue", "head", "I"), ("com/example/singlet/singlet/propagation/IndexQueue", "size", "I")]
theorem lay_IQ {Z : State} {a0 : Array Value} (hw : HW Z a0) : OLaids Z a0 "com/example/singlet/singlet/propagation/IndexQueue" L_IQ := by
  intro q hq
  simp only [L_IQ, List.mem_cons, List.not_mem_nil, or_false] at hq
  rcases hq with rfl | rfl | rfl | rfl
  · exact ⟨Or.inr (w12 hw), (.array .int), by decide⟩
  · exact ⟨Or.inr (w15 hw), (.array .boolean), by decide⟩
  · exact ⟨Or.inl (w22 hw), .int, by decide⟩
  · exact ⟨Or.inl (w24 hw), .int, by decide⟩

def QI (c : Nat) (els : List Int32) (rs zs : List Value) (hn : Nat) : Prop := rs.length = c ∧ zs.length = c ∧ hn < c ∧ c ≤ 4 ∧ (∀ i e, els[i]? = some e → rs[(hn + i) % c]? = some (.int e)) ∧ (∀ (j : Int32) (n : Nat), j.toInt = (n : Int) → n < c → zs[n]? = some (.int (if j ∈ els then 1 else 0)))
theorem QI.nil (c : Nat) (h0 : 0 < c) (h4 : c ≤ 4) : QI c [] (List.replicate c (.int 0)) (List.replicate c (.int 0)) 0 := by
  refine ⟨by simp, by simp, h0, h4, fun i e q => by simp at q, fun j n hj hn => ?_⟩
  simp [hn]
theorem own_mod_ne {c hn i s : Nat} (h1 : hn < c) (h2 : c ≤ 4) (h3 : i < s) (h4 : s < c) : (hn + i) % c ≠ (hn + s) % c := by
  rcases (by omega : c = 1 ∨ c = 2 ∨ c = 3 ∨ c = 4) with rfl | rfl | rfl | rfl <;> omega
theorem QI.add {c : Nat} {els : List Int32} {rs zs : List Value} {hn : Nat} (I : QI c els rs zs hn) (k : Int32) (n m : Nat) (hk : k.toInt = (n : Int)) (hnc : n < c) (hl : els.length < c) (hm : m = (hn + els.length) % c) : QI c (els ++ [k]) (rs.set m (.int k)) (zs.set n (.int (nar .boolean 1))) hn := by
  obtain ⟨a1, a2, a3, a4, a5, a6⟩ := I
  refine ⟨by simpa using a1, by simpa using a2, a3, a4, fun i e q => ?_, fun j p hj hp => ?_⟩
  · by_cases hi : i < els.length
    · rw [List.getElem?_append_left hi] at q
      rw [List.getElem?_set_ne (by rw [hm]; exact (own_mod_ne a3 a4 hi hl).symm)]
      exact a5 i e q
    · have h2 : i = els.length := by
        have := (List.getElem?_eq_some_iff.mp q).1
        simp at this; omega
      subst h2
      simp at q
      subst q
      rw [hm, List.getElem?_set_self (by rw [a1]; exact Nat.mod_lt _ (by omega))]
  · by_cases e : p = n
    · subst e
      obtain rfl : j = k := own_e32 (by omega)
      rw [List.getElem?_set_self (by omega)]
      simp [own_nar1]
    · rw [List.getElem?_set_ne (Ne.symm e), a6 j p hj hp]
      have : j ≠ k := fun q => e (by subst q; omega)
      simp [this]
theorem QI.poll {c : Nat} {els : List Int32} {rs zs : List Value} {hn : Nat} (k : Int32) (I : QI c (k :: els) rs zs hn) (n : Nat) (hk : k.toInt = (n : Int)) (hnc : n < c) (hne : k ∉ els) : QI c els rs (zs.set n (.int (nar .boolean 0))) ((hn + 1) % c) := by
  obtain ⟨a1, a2, a3, a4, a5, a6⟩ := I
  refine ⟨a1, by simpa using a2, Nat.mod_lt _ (by omega), a4, fun i e q => ?_, fun j p hj hp => ?_⟩
  · rw [Nat.mod_add_mod, Nat.add_assoc, Nat.add_comm 1 i]
    exact a5 (i + 1) e (by simpa using q)
  · by_cases e : p = n
    · subst e
      obtain rfl : j = k := own_e32 (by omega)
      rw [List.getElem?_set_self (by omega)]
      simp [own_nar0, hne]
    · rw [List.getElem?_set_ne (Ne.symm e), a6 j p hj hp]
      have : j ≠ k := fun q => e (by subst q; omega)
      simp [this]
def IQ (Z : State) (n0 : Nat) (h : Heap) (q : Addr) (c : Nat) (els : List Int32) : Prop := ∃ (r z : Addr) (rs zs : List Value) (hd sz : Int32) (hn : Nat), Ob Z h q "com/example/singlet/singlet/propagation/IndexQueue" L_IQ [.ref r, .ref z, .int hd, .int sz] ∧ Av Z h r .int rs ∧ Av Z h z .boolean zs ∧ QI c els rs zs hn ∧ hd.toInt = (hn : Int) ∧ sz.toInt = (els.length : Int) ∧ n0 ≤ q ∧ n0 ≤ r ∧ n0 ≤ z ∧ q ≠ r ∧ q ≠ z ∧ r ≠ z
theorem IQ.exa {Z : State} {n0 : Nat} {h : Heap} {q : Addr} {c : Nat} {els : List Int32} (I : IQ Z n0 h q c els) : Exa Z h q "com/example/singlet/singlet/propagation/IndexQueue" := by
  obtain ⟨r, z, rs, zs, hd, sz, hn, O, -⟩ := I; exact O.1

theorem ini_met {l : Launch} {Z : State} {a0 : Array Value} (hw : HW Z a0) {n0 : Nat} {h : Heap} (q : Addr) (n : Int32) (cn : Nat) (hn : n.toInt = (cn : Int)) (h0 : 0 < cn) (h4 : cn ≤ 4) (g_q : n0 ≤ q) (O_q : Ob Z h q "com/example/singlet/singlet/propagation/IndexQueue" L_IQ [.null, .null, .int 0, .int 0]) : OMet l (⟨"com/example/singlet/singlet/propagation/IndexQueue", "<init>", "(I)V"⟩ : MethodName) B1 Z n0 #[(.ref q), (.int n)] h (fun v h' => v = none ∧ IQ Z n0 h' q cn []) := by
  refine OMet.of_wp (ls0 := #[.val (.ref q), .val (.int n)]) pl1 rfl rfl (fun m => own_entry 0 rfl rfl) ?_
  refine WP.aloadN d1_0 rfl rfl (pc' := 1) rfl ?_
  refine WP.initO (a := q) d1_1 (w7 hw) (w8 hw) (w9 hw) rfl (by decide) (Nat.le_of_ble_eq_true rfl) (pc' := 4) rfl ?_
  refine WP.iloadN d1_4 rfl (pc' := 5) rfl ?_
  refine WP.ifGe d1_5 (tgt := 22) (by decide) (pc' := 8) rfl (fun c5 => ?_) (fun c5 => ?_)
  ·
    refine WP.aloadN d1_22 rfl rfl (pc' := 23) rfl ?_
    refine WP.iloadN d1_23 rfl (pc' := 24) rfl ?_
    refine WP.newarr d1_24 (w10 hw) (k := cn) hn 4 h4 (by decide) (by decide) (by decide) (pc' := 26) rfl ?_
    intro r h1 eb_r g_r K2 A_r
    replace A_r : Av Z h1 r .int (List.replicate cn (.int 0)) := A_r
    have lt_q_r : q < r := by rw [eb_r]; exact O_q.lt
    replace O_q := O_q.keep K2 own_nil
    refine WP.putf (i := 0) d1_26 (w11 hw) O_q (lay_IQ hw) (by decide) rfl (Or.inr ⟨(w12 hw), rfl, rfl⟩) (w2 hw) (t := (.array .int)) (by decide) rfl rfl g_q (pc' := 29) rfl ?_
    intro h3 K4 O_n
    replace A_r := A_r.keep K4 (own_cons (by first | assumption | exact Ne.symm (by assumption) | exact Nat.ne_of_lt (by assumption) | exact Nat.ne_of_gt (by assumption)) own_nil)
    replace O_q : Ob Z h3 q "com/example/singlet/singlet/propagation/IndexQueue" L_IQ [(.ref r), .null, (.int 0), (.int 0)] := O_n
    clear O_n
    refine WP.aloadN d1_29 rfl rfl (pc' := 30) rfl ?_
    refine WP.iloadN d1_30 rfl (pc' := 31) rfl ?_
    refine WP.newarr d1_31 (w13 hw) (k := cn) hn 4 h4 (by decide) (by decide) (by decide) (pc' := 33) rfl ?_
    intro z h5 eb_z g_z K6 A_z
    replace A_z : Av Z h5 z .boolean (List.replicate cn (.int 0)) := A_z
    have lt_q_z : q < z := by rw [eb_z]; exact O_q.lt
    have lt_r_z : r < z := by rw [eb_z]; exact A_r.lt
    replace O_q := O_q.keep K6 own_nil
    replace A_r := A_r.keep K6 own_nil
    refine WP.putf (i := 1) d1_33 (w14 hw) O_q (lay_IQ hw) (by decide) rfl (Or.inr ⟨(w15 hw), rfl, rfl⟩) (w2 hw) (t := (.array .boolean)) (by decide) rfl rfl g_q (pc' := 36) rfl ?_
    intro h7 K8 O_n
    replace A_r := A_r.keep K8 (own_cons (by first | assumption | exact Ne.symm (by assumption) | exact Nat.ne_of_lt (by assumption) | exact Nat.ne_of_gt (by assumption)) own_nil)
    replace A_z := A_z.keep K8 (own_cons (by first | assumption | exact Ne.symm (by assumption) | exact Nat.ne_of_lt (by assumption) | exact Nat.ne_of_gt (by assumption)) own_nil)
    replace O_q : Ob Z h7 q "com/example/singlet/singlet/propagation/IndexQueue" L_IQ [(.ref r), (.ref z), (.int 0), (.int 0)] := O_n
    clear O_n
    exact WP.ret0 d1_36 rfl (by decide) (by decide) ⟨rfl, r, z, _, _, 0, 0, 0, O_q, A_r, A_z, QI.nil cn h0 h4, by decide, by decide, g_q, g_r, g_z, (by first | assumption | exact Ne.symm (by assumption) | exact Nat.ne_of_lt (by assumption) | exact Nat.ne_of_gt (by assumption)), (by first | assumption | exact Ne.symm (by assumption) | exact Nat.ne_of_lt (by assumption) | exact Nat.ne_of_gt (by assumption)), (by first | assumption | exact Ne.symm (by assumption) | exact Nat.ne_of_lt (by assumption) | exact Nat.ne_of_gt (by assumption))⟩
  exfalso; omega
theorem add_in {l : Launch} {Z : State} {a0 : Array Value} (hw : HW Z a0) {n0 : Nat} {h : Heap} (q : Addr) (k : Int32) (c n : Nat) (els : List Int32) (hI : IQ Z n0 h q c els) (hk : k.toInt = (n : Int)) (hnc : n < c) (hm : k ∈ els) : OMet l (⟨"com/example/singlet/singlet/propagation/IndexQueue", "add", "(I)Z"⟩ : MethodName) B3 Z n0 #[(.ref q), (.int k)] h (fun v h' => v = some (.int 0) ∧ IQ Z n0 h' q c els) := by
  refine OMet.of_wp (ls0 := #[.val (.ref q), .val (.int k)]) pl3 rfl rfl (fun m => own_entry 0 rfl rfl) ?_
  have hI := id hI
  obtain ⟨r, z, rs, zs, hd, sz, hn, O_q, A_r, A_z, hQ, hhd, hsz, g_q, g_r, g_z, n_qr, n_qz, n_rz⟩ := id hI
  have k32_0 : (0 : Int32).toInt = 0 := by decide
  have k32_1 : (1 : Int32).toInt = 1 := by decide
  refine WP.aloadN d3_0 rfl rfl (pc' := 1) rfl ?_
  refine WP.getf (i := 1) (v := (.ref z)) d3_1 (w14 hw) O_q rfl rfl (pc' := 4) rfl ?_
  refine WP.iloadN d3_4 rfl (pc' := 5) rfl ?_
  refine WP.baloadZ n d3_5 A_z (x := (1 : Int32)) hk (by have := hQ.2.2.2.2.2 k n hk hnc; simpa [hm] using this) (pc' := 6) rfl ?_
  refine WP.ifEq d3_6 (tgt := 11) (by decide) (pc' := 9) rfl (fun c6 => ?_) (fun c6 => ?_)
  · exfalso; omega
  refine WP.iconst d3_9 (z := (0 : Int32)) rfl (pc' := 10) rfl ?_
  exact WP.retN d3_10 (t := .boolean) rfl (by simp) (by decide) (by decide) ⟨own_q0, hI⟩
theorem add_new {l : Launch} {Z : State} {a0 : Array Value} (hw : HW Z a0) {n0 : Nat} {h : Heap} (q : Addr) (k : Int32) (c n : Nat) (els : List Int32) (hI : IQ Z n0 h q c els) (hk : k.toInt = (n : Int)) (hnc : n < c) (hm : k ∉ els) (hl : els.length < c) (cI : Int32) (hcI : cI.toInt = (c : Int)) : OMet l (⟨"com/example/singlet/singlet/propagation/IndexQueue", "add", "(I)Z"⟩ : MethodName) B3 Z n0 #[(.ref q), (.int k)] h (fun v h' => v = some (.int 1) ∧ IQ Z n0 h' q c (els ++ [k])) := by
  refine OMet.of_wp (ls0 := #[.val (.ref q), .val (.int k)]) pl3 rfl rfl (fun m => own_entry 0 rfl rfl) ?_
  obtain ⟨r, z, rs, zs, hd, sz, hn, O_q, A_r, A_z, hQ, hhd, hsz, g_q, g_r, g_z, n_qr, n_qz, n_rz⟩ := hI
  have k32_0 : (0 : Int32).toInt = 0 := by decide
  have k32_1 : (1 : Int32).toInt = 1 := by decide
  refine WP.aloadN d3_0 rfl rfl (pc' := 1) rfl ?_
  refine WP.getf (i := 1) (v := (.ref z)) d3_1 (w14 hw) O_q rfl rfl (pc' := 4) rfl ?_
  refine WP.iloadN d3_4 rfl (pc' := 5) rfl ?_
  refine WP.baloadZ n d3_5 A_z (x := (0 : Int32)) hk (by have := hQ.2.2.2.2.2 k n hk hnc; simpa [hm] using this) (pc' := 6) rfl ?_
  refine WP.ifEq d3_6 (tgt := 11) (by decide) (pc' := 9) rfl (fun c6 => ?_) (fun c6 => ?_)
  ·
    refine WP.aloadN d3_11 rfl rfl (pc' := 12) rfl ?_
    refine WP.getf (i := 1) (v := (.ref z)) d3_12 (w14 hw) O_q rfl rfl (pc' := 15) rfl ?_
    refine WP.iloadN d3_15 rfl (pc' := 16) rfl ?_
    refine WP.iconst d3_16 (z := (1 : Int32)) rfl (pc' := 17) rfl ?_
    refine WP.bastoreZ n d3_17 A_z hk (by rw [hQ.2.1]; exact hnc) g_z (pc' := 18) rfl ?_
    intro h1 K2 A_n
    replace O_q := O_q.keep K2 (own_cons (by first | assumption | exact Ne.symm (by assumption) | exact Nat.ne_of_lt (by assumption) | exact Nat.ne_of_gt (by assumption)) own_nil)
    replace A_r := A_r.keep K2 (own_cons (by first | assumption | exact Ne.symm (by assumption) | exact Nat.ne_of_lt (by assumption) | exact Nat.ne_of_gt (by assumption)) own_nil)
    replace A_z := A_n
    refine WP.aloadN d3_18 rfl rfl (pc' := 19) rfl ?_
    refine WP.getf (i := 0) (v := (.ref r)) d3_19 (w11 hw) O_q rfl rfl (pc' := 22) rfl ?_
    refine WP.aloadN d3_22 rfl rfl (pc' := 23) rfl ?_
    refine WP.getf (i := 2) (v := (.int hd)) d3_23 (w21 hw) O_q rfl rfl (pc' := 26) rfl ?_
    refine WP.aloadN d3_26 rfl rfl (pc' := 27) rfl ?_
    refine WP.getf (i := 3) (v := (.int sz)) d3_27 (w23 hw) O_q rfl rfl (pc' := 30) rfl ?_
    refine WP.iadd d3_30 (pc' := 31) rfl ?_
    refine WP.aloadN d3_31 rfl rfl (pc' := 32) rfl ?_
    refine WP.getf (i := 0) (v := (.ref r)) d3_32 (w11 hw) O_q rfl rfl (pc' := 35) rfl ?_
    refine WP.alen d3_35 A_r (k := cI) (by rw [hQ.1]; exact hcI) (pc' := 36) rfl ?_
    refine WP.irem d3_36 (fun q => by rw [q] at hcI; have : (0 : Int32).toInt = 0 := rfl; omega) (pc' := 37) rfl ?_
    refine WP.iloadN d3_37 rfl (pc' := 38) rfl ?_
    have hq3 := hQ.2.2.1
    have hq4 := hQ.2.2.2.1
    have hq1 := hQ.1
    have f1 : (hd + sz).toInt = hd.toInt + sz.toInt := by rw [own_iadd] <;> omega
    have f2 : ((hd + sz) % cI).toInt = (hd + sz).toInt % (c : Int) := own_irem hcI (by omega)
    have f3 : ((hd + sz) % cI).toInt = (((hn + els.length) % c : Nat) : Int) := by rw [f2, f1, hhd, hsz]; simp
    refine WP.iastore ((hn + els.length) % c) d3_38 A_r f3 (by rw [hq1]; exact Nat.mod_lt _ (by omega)) g_r (pc' := 39) rfl ?_
    intro h3 K4 A_n
    replace O_q := O_q.keep K4 (own_cons (by first | assumption | exact Ne.symm (by assumption) | exact Nat.ne_of_lt (by assumption) | exact Nat.ne_of_gt (by assumption)) own_nil)
    replace A_z := A_z.keep K4 (own_cons (by first | assumption | exact Ne.symm (by assumption) | exact Nat.ne_of_lt (by assumption) | exact Nat.ne_of_gt (by assumption)) own_nil)
    replace A_r := A_n
    refine WP.aloadN d3_39 rfl rfl (pc' := 40) rfl ?_
    refine WP.dup d3_40 rfl (pc' := 41) rfl ?_
    refine WP.getf (i := 3) (v := (.int sz)) d3_41 (w23 hw) O_q rfl rfl (pc' := 44) rfl ?_
    refine WP.iconst d3_44 (z := (1 : Int32)) rfl (pc' := 45) rfl ?_
    refine WP.iadd d3_45 (pc' := 46) rfl ?_
    refine WP.putf (i := 3) d3_46 (w23 hw) O_q (lay_IQ hw) (by decide) rfl (Or.inl (w24 hw)) (w2 hw) (t := .int) (by decide) rfl rfl g_q (pc' := 49) rfl ?_
    intro h5 K6 O_n
    replace A_r := A_r.keep K6 (own_cons (by first | assumption | exact Ne.symm (by assumption) | exact Nat.ne_of_lt (by assumption) | exact Nat.ne_of_gt (by assumption)) own_nil)
    replace A_z := A_z.keep K6 (own_cons (by first | assumption | exact Ne.symm (by assumption) | exact Nat.ne_of_lt (by assumption) | exact Nat.ne_of_gt (by assumption)) own_nil)
    replace O_q : Ob Z h5 q "com/example/singlet/singlet/propagation/IndexQueue" L_IQ [(.ref r), (.ref z), (.int hd), (.int (sz + (1 : Int32)))] := O_n
    clear O_n
    refine WP.iconst d3_49 (z := (1 : Int32)) rfl (pc' := 50) rfl ?_
    exact WP.retN d3_50 (t := .boolean) rfl (by simp) (by decide) (by decide) ⟨own_q1, r, z, _, _, hd, _, hn, O_q, A_r, A_z, QI.add hQ k n _ hk hnc hl rfl, hhd, (by rw [own_iadd] <;> simp <;> omega), g_q, g_r, g_z, n_qr, n_qz, n_rz⟩
  exfalso; omega
theorem siz_met {l : Launch} {Z : State} {a0 : Array Value} (hw : HW Z a0) {n0 : Nat} {h : Heap} (q : Addr) (c : Nat) (els : List Int32) (hI : IQ Z n0 h q c els) : OMet l (⟨"com/example/singlet/singlet/propagation/IndexQueue", "size", "()I"⟩ : MethodName) B4 Z n0 #[(.ref q)] h (fun v h' => ∃ s : Int32, v = some (.int s) ∧ s.toInt = (els.length : Int) ∧ IQ Z n0 h' q c els) := by
  refine OMet.of_wp (ls0 := #[.val (.ref q)]) pl4 rfl rfl (fun m => own_entry 0 rfl rfl) ?_
  have hI := id hI
  obtain ⟨r, z, rs, zs, hd, sz, hn, O_q, A_r, A_z, hQ, hhd, hsz, g_q, g_r, g_z, n_qr, n_qz, n_rz⟩ := id hI
  refine WP.aloadN d4_0 rfl rfl (pc' := 1) rfl ?_
  refine WP.getf (i := 3) (v := (.int sz)) d4_1 (w23 hw) O_q rfl rfl (pc' := 4) rfl ?_
  exact WP.retI d4_4 rfl (by decide) (by decide) ⟨_, rfl, hsz, hI⟩
theorem con_met {l : Launch} {Z : State} {a0 : Array Value} (hw : HW Z a0) {n0 : Nat} {h : Heap} (q : Addr) (k : Int32) (c n : Nat) (els : List Int32) (hI : IQ Z n0 h q c els) (hk : k.toInt = (n : Int)) (hnc : n < c) (hm : k ∈ els) : OMet l (⟨"com/example/singlet/singlet/propagation/IndexQueue", "contains", "(I)Z"⟩ : MethodName) B5 Z n0 #[(.ref q), (.int k)] h (fun v h' => v = some (.int 1) ∧ IQ Z n0 h' q c els) := by
  refine OMet.of_wp (ls0 := #[.val (.ref q), .val (.int k)]) pl5 rfl rfl (fun m => own_entry 0 rfl rfl) ?_
  have hI := id hI
  obtain ⟨r, z, rs, zs, hd, sz, hn, O_q, A_r, A_z, hQ, hhd, hsz, g_q, g_r, g_z, n_qr, n_qz, n_rz⟩ := id hI
  have k32_1 : (1 : Int32).toInt = 1 := by decide
  refine WP.aloadN d5_0 rfl rfl (pc' := 1) rfl ?_
  refine WP.getf (i := 1) (v := (.ref z)) d5_1 (w14 hw) O_q rfl rfl (pc' := 4) rfl ?_
  refine WP.iloadN d5_4 rfl (pc' := 5) rfl ?_
  refine WP.baloadZ n d5_5 A_z (x := (1 : Int32)) hk (by have := hQ.2.2.2.2.2 k n hk hnc; simpa [hm] using this) (pc' := 6) rfl ?_
  exact WP.retN d5_6 (t := .boolean) rfl (by simp) (by decide) (by decide) ⟨own_q1, hI⟩
theorem pol_met {l : Launch} {Z : State} {a0 : Array Value} (hw : HW Z a0) {n0 : Nat} {h : Heap} (q : Addr) (k : Int32) (c n : Nat) (els : List Int32) (hI : IQ Z n0 h q c (k :: els)) (hk : k.toInt = (n : Int)) (hnc : n < c) (hne : k ∉ els) (cI : Int32) (hcI : cI.toInt = (c : Int)) : OMet l (⟨"com/example/singlet/singlet/propagation/IndexQueue", "poll", "()I"⟩ : MethodName) B6 Z n0 #[(.ref q)] h (fun v h' => v = some (.int k) ∧ IQ Z n0 h' q c els) := by
  refine OMet.of_wp (ls0 := #[.val (.ref q), .unset]) pl6 rfl rfl (fun m => own_entry 1 rfl rfl) ?_
  obtain ⟨r, z, rs, zs, hd, sz, hn, O_q, A_r, A_z, hQ, hhd, hsz, g_q, g_r, g_z, n_qr, n_qz, n_rz⟩ := hI
  have k32_0 : (0 : Int32).toInt = 0 := by decide
  have k32_1 : (1 : Int32).toInt = 1 := by decide
  refine WP.aloadN d6_0 rfl rfl (pc' := 1) rfl ?_
  refine WP.getf (i := 3) (v := (.int sz)) d6_1 (w23 hw) O_q rfl rfl (pc' := 4) rfl ?_
  refine WP.ifNe d6_4 (tgt := 17) (by decide) (pc' := 7) rfl (fun c4 => ?_) (fun c4 => ?_)
  ·
    refine WP.aloadN d6_17 rfl rfl (pc' := 18) rfl ?_
    refine WP.getf (i := 0) (v := (.ref r)) d6_18 (w11 hw) O_q rfl rfl (pc' := 21) rfl ?_
    refine WP.aloadN d6_21 rfl rfl (pc' := 22) rfl ?_
    refine WP.getf (i := 2) (v := (.int hd)) d6_22 (w21 hw) O_q rfl rfl (pc' := 25) rfl ?_
    refine WP.iaload hn d6_25 A_r (x := k) hhd (by have := hQ.2.2.2.2.1 0 k (by simp); simpa [Nat.mod_eq_of_lt hQ.2.2.1] using this) (pc' := 26) rfl ?_
    refine WP.istoreN d6_26 (pc' := 27) rfl (ls' := #[.val (.ref q), .val (.int k)]) rfl ?_
    refine WP.aloadN d6_27 rfl rfl (pc' := 28) rfl ?_
    refine WP.getf (i := 1) (v := (.ref z)) d6_28 (w14 hw) O_q rfl rfl (pc' := 31) rfl ?_
    refine WP.iloadN d6_31 rfl (pc' := 32) rfl ?_
    refine WP.iconst d6_32 (z := (0 : Int32)) rfl (pc' := 33) rfl ?_
    refine WP.bastoreZ n d6_33 A_z hk (by rw [hQ.2.1]; exact hnc) g_z (pc' := 34) rfl ?_
    intro h1 K2 A_n
    replace O_q := O_q.keep K2 (own_cons (by first | assumption | exact Ne.symm (by assumption) | exact Nat.ne_of_lt (by assumption) | exact Nat.ne_of_gt (by assumption)) own_nil)
    replace A_r := A_r.keep K2 (own_cons (by first | assumption | exact Ne.symm (by assumption) | exact Nat.ne_of_lt (by assumption) | exact Nat.ne_of_gt (by assumption)) own_nil)
    replace A_z := A_n
    refine WP.aloadN d6_34 rfl rfl (pc' := 35) rfl ?_
    refine WP.aloadN d6_35 rfl rfl (pc' := 36) rfl ?_
    refine WP.getf (i := 2) (v := (.int hd)) d6_36 (w21 hw) O_q rfl rfl (pc' := 39) rfl ?_
    refine WP.iconst d6_39 (z := (1 : Int32)) rfl (pc' := 40) rfl ?_
    refine WP.iadd d6_40 (pc' := 41) rfl ?_
    refine WP.aloadN d6_41 rfl rfl (pc' := 42) rfl ?_
    refine WP.getf (i := 0) (v := (.ref r)) d6_42 (w11 hw) O_q rfl rfl (pc' := 45) rfl ?_
    refine WP.alen d6_45 A_r (k := cI) (by rw [hQ.1]; exact hcI) (pc' := 46) rfl ?_
    refine WP.irem d6_46 (fun q => by rw [q] at hcI; have : (0 : Int32).toInt = 0 := rfl; omega) (pc' := 47) rfl ?_
    have hq3 := hQ.2.2.1
    have hq4 := hQ.2.2.2.1
    have f1 : (hd + (1 : Int32)).toInt = hd.toInt + 1 := by rw [own_iadd] <;> omega
    have f2 : ((hd + (1 : Int32)) % cI).toInt = (hd + (1 : Int32)).toInt % (c : Int) := own_irem hcI (by omega)
    have f3 : ((hd + (1 : Int32)) % cI).toInt = (((hn + 1) % c : Nat) : Int) := by rw [f2, f1, hhd]; simp
    refine WP.putf (i := 2) d6_47 (w21 hw) O_q (lay_IQ hw) (by decide) rfl (Or.inl (w22 hw)) (w2 hw) (t := .int) (by decide) rfl rfl g_q (pc' := 50) rfl ?_
    intro h3 K4 O_n
    replace A_r := A_r.keep K4 (own_cons (by first | assumption | exact Ne.symm (by assumption) | exact Nat.ne_of_lt (by assumption) | exact Nat.ne_of_gt (by assumption)) own_nil)
    replace A_z := A_z.keep K4 (own_cons (by first | assumption | exact Ne.symm (by assumption) | exact Nat.ne_of_lt (by assumption) | exact Nat.ne_of_gt (by assumption)) own_nil)
    replace O_q : Ob Z h3 q "com/example/singlet/singlet/propagation/IndexQueue" L_IQ [(.ref r), (.ref z), (.int ((hd + (1 : Int32)) % cI)), (.int sz)] := O_n
    clear O_n
    refine WP.aloadN d6_50 rfl rfl (pc' := 51) rfl ?_
    refine WP.dup d6_51 rfl (pc' := 52) rfl ?_
    refine WP.getf (i := 3) (v := (.int sz)) d6_52 (w23 hw) O_q rfl rfl (pc' := 55) rfl ?_
    refine WP.iconst d6_55 (z := (1 : Int32)) rfl (pc' := 56) rfl ?_
    refine WP.isub d6_56 (pc' := 57) rfl ?_
    refine WP.putf (i := 3) d6_57 (w23 hw) O_q (lay_IQ hw) (by decide) rfl (Or.inl (w24 hw)) (w2 hw) (t := .int) (by decide) rfl rfl g_q (pc' := 60) rfl ?_
    intro h5 K6 O_n
    replace A_r := A_r.keep K6 (own_cons (by first | assumption | exact Ne.symm (by assumption) | exact Nat.ne_of_lt (by assumption) | exact Nat.ne_of_gt (by assumption)) own_nil)
    replace A_z := A_z.keep K6 (own_cons (by first | assumption | exact Ne.symm (by assumption) | exact Nat.ne_of_lt (by assumption) | exact Nat.ne_of_gt (by assumption)) own_nil)
    replace O_q : Ob Z h5 q "com/example/singlet/singlet/propagation/IndexQueue" L_IQ [(.ref r), (.ref z), (.int ((hd + (1 : Int32)) % cI)), (.int (sz - (1 : Int32)))] := O_n
    clear O_n
    refine WP.iloadN d6_60 rfl (pc' := 61) rfl ?_
    exact WP.retI d6_61 rfl (by decide) (by decide) ⟨rfl, r, z, _, _, _, _, _, O_q, A_r, A_z, QI.poll k hQ n hk hnc hne, f3, (by have r0 := own_r32 sz; simp at hsz; rw [own_isub] <;> omega), g_q, g_r, g_z, n_qr, n_qz, n_rz⟩
  exfalso; simp at hsz; omega
theorem own_mem0 {x y : Int32} {r : List Int32} (h : x = y) : x ∈ y :: r := by rw [h]; exact List.mem_cons_self ..
theorem own_mem1 {x y z : Int32} {r : List Int32} (h : x = y) : x ∈ z :: y :: r := List.mem_cons_of_mem _ (own_mem0 h)
theorem own_mem2 {x y z u : Int32} {r : List Int32} (h : x = y) : x ∈ z :: u :: y :: r := List.mem_cons_of_mem _ (own_mem1 h)
theorem own_nmem0 {x : Int32} : x ∉ ([] : List Int32) := nofun
theorem own_nmem {x y : Int32} {r : List Int32} (h : x ≠ y) (h' : x ∉ r) : x ∉ y :: r := fun q => (List.mem_cons.mp q).elim h h'
theorem own_ne {x y : Int32} (h : x.toInt ≠ y.toInt) : x ≠ y := fun q => h (by rw [q])
theorem law_s0a {l : Launch} {Z : State} {a0 : Array Value} (hw : HW Z a0) {n0 : Nat} {h : Heap} (a b d e f cI i1 i2 ix : Int32) (c n1 n2 nx : Nat) (hcI : cI.toInt = (c : Int)) (h0 : 0 < c) (h4 : c ≤ 4) (hn1 : i1.toInt = (n1 : Int)) (hn2 : i2.toInt = (n2 : Int)) (hnx : ix.toInt = (nx : Int)) (hl1 : n1 < c) (hl2 : n2 < c) (hlx : nx < c) (hs : i2.toInt = i1.toInt) (hx : ix.toInt = i1.toInt) : WP l B0 Z n0 (fun v h' => v = some (.int 1)) h 0 0 48 #[.val (.int a), .val (.int b), .val (.int d), .val (.int e), .val (.int f), .val (.int cI), .val (.int i1), .val (.int i2), .val (.int ix), .val (.int (0 : Int32)), .unset, .unset, .unset, .unset, .unset, .unset, .unset, .unset, .unset, .unset] [] := by
  have k32_0 : (0 : Int32).toInt = 0 := by decide
  have k32_1 : (1 : Int32).toInt = 1 := by decide
  have k32_2 : (2 : Int32).toInt = 2 := by decide
  have k32_3 : (3 : Int32).toInt = 3 := by decide
  refine WP.newobj (lay := L_IQ) (vs := [.null, .null, (.int 0), (.int 0)]) at_48 (w1 hw) (w2 hw) (w3 hw) (lay_IQ hw) rfl (by decide) (by decide) (pc' := 51) rfl ?_
  intro q h1 eb_q g_q K2 O_q
  refine WP.dup at_51 rfl (pc' := 52) rfl ?_
  refine WP.iload at_52 rfl (pc' := 54) rfl ?_
  refine WP.callI (a := q) (y := (⟨"com/example/singlet/singlet/propagation/IndexQueue", "<init>", "(I)V"⟩ : MethodName)) (By := B1) (as := [(.int cI)]) (rest := [(.ref q)]) at_54 (w4 hw) (w5 hw) (w3 hw) (w6 hw) rfl rfl (by decide) (ini_met hw q cI c hcI (by omega) (by omega) g_q O_q) pd_0 rfl rfl rfl (by decide) (Nat.le_of_ble_eq_true rfl) (by decide) (by decide) (pc' := 57) rfl ?_
  rintro _ h3 ⟨rfl, hI⟩
  show WP _ _ _ _ _ _ _ _ _ _ [(.ref q)]
  refine WP.astore at_57 (pc' := 59) rfl rfl (ls' := #[.val (.int a), .val (.int b), .val (.int d), .val (.int e), .val (.int f), .val (.int cI), .val (.int i1), .val (.int i2), .val (.int ix), .val (.int (0 : Int32)), .val (.ref q), .unset, .unset, .unset, .unset, .unset, .unset, .unset, .unset, .unset]) rfl ?_
  refine WP.iload at_59 rfl (pc' := 61) rfl ?_
  refine WP.istore at_61 (pc' := 63) rfl (ls' := #[.val (.int a), .val (.int b), .val (.int d), .val (.int e), .val (.int f), .val (.int cI), .val (.int i1), .val (.int i2), .val (.int ix), .val (.int (0 : Int32)), .val (.ref q), .val (.int i1), .unset, .unset, .unset, .unset, .unset, .unset, .unset, .unset]) rfl ?_
  refine WP.iconst at_63 (z := (0 : Int32)) rfl (pc' := 64) rfl ?_
  refine WP.istore at_64 (pc' := 66) rfl (ls' := #[.val (.int a), .val (.int b), .val (.int d), .val (.int e), .val (.int f), .val (.int cI), .val (.int i1), .val (.int i2), .val (.int ix), .val (.int (0 : Int32)), .val (.ref q), .val (.int i1), .val (.int (0 : Int32)), .unset, .unset, .unset, .unset, .unset, .unset, .unset]) rfl ?_
  refine WP.iconst at_66 (z := (0 : Int32)) rfl (pc' := 67) rfl ?_
  refine WP.istore at_67 (pc' := 69) rfl (ls' := #[.val (.int a), .val (.int b), .val (.int d), .val (.int e), .val (.int f), .val (.int cI), .val (.int i1), .val (.int i2), .val (.int ix), .val (.int (0 : Int32)), .val (.ref q), .val (.int i1), .val (.int (0 : Int32)), .val (.int (0 : Int32)), .unset, .unset, .unset, .unset, .unset, .unset]) rfl ?_
  refine WP.iconst at_69 (z := (1 : Int32)) rfl (pc' := 70) rfl ?_
  refine WP.istore at_70 (pc' := 72) rfl (ls' := #[.val (.int a), .val (.int b), .val (.int d), .val (.int e), .val (.int f), .val (.int cI), .val (.int i1), .val (.int i2), .val (.int ix), .val (.int (0 : Int32)), .val (.ref q), .val (.int i1), .val (.int (0 : Int32)), .val (.int (0 : Int32)), .val (.int (1 : Int32)), .unset, .unset, .unset, .unset, .unset]) rfl ?_
  refine WP.aload at_72 rfl rfl (pc' := 74) rfl ?_
  refine WP.iload at_74 rfl (pc' := 76) rfl ?_
  refine WP.callV (a := q) (z := (⟨"com/example/singlet/singlet/propagation/IndexQueue", "add", "(I)Z"⟩ : MethodName)) (Cl := "com/example/singlet/singlet/propagation/IndexQueue") (y := (⟨"com/example/singlet/singlet/propagation/IndexQueue", "add", "(I)Z"⟩ : MethodName)) (By := B3) (as := [(.int i1)]) (rest := []) at_76 (w16 hw) (w17 hw) (w19 hw) (w18 hw) (w3 hw) (w20 hw) rfl rfl (by decide) hI.exa (add_new hw q i1 c n1 [] hI hn1 (by omega) own_nmem0 (by show _ + 1 ≤ _; simp only [List.length_cons, List.length_nil]; omega) cI hcI) pd_1 rfl rfl rfl (by decide) (Nat.le_of_ble_eq_true rfl) (by decide) (by decide) (pc' := 79) rfl ?_
  rintro _ h4 ⟨rfl, hI⟩
  replace hI : IQ Z n0 _ q c [i1] := hI
  show WP _ _ _ _ _ _ _ _ _ _ [(.int (1 : Int32))]
  refine WP.istore at_79 (pc' := 81) rfl (ls' := #[.val (.int a), .val (.int b), .val (.int d), .val (.int e), .val (.int f), .val (.int cI), .val (.int i1), .val (.int i2), .val (.int ix), .val (.int (0 : Int32)), .val (.ref q), .val (.int i1), .val (.int (0 : Int32)), .val (.int (0 : Int32)), .val (.int (1 : Int32)), .val (.int (1 : Int32)), .unset, .unset, .unset, .unset]) rfl ?_
  refine WP.aload at_81 rfl rfl (pc' := 83) rfl ?_
  refine WP.iload at_83 rfl (pc' := 85) rfl ?_
  refine WP.callV (a := q) (z := (⟨"com/example/singlet/singlet/propagation/IndexQueue", "add", "(I)Z"⟩ : MethodName)) (Cl := "com/example/singlet/singlet/propagation/IndexQueue") (y := (⟨"com/example/singlet/singlet/propagation/IndexQueue", "add", "(I)Z"⟩ : MethodName)) (By := B3) (as := [(.int i2)]) (rest := []) at_85 (w16 hw) (w17 hw) (w19 hw) (w18 hw) (w3 hw) (w20 hw) rfl rfl (by decide) hI.exa (add_in hw q i2 c n2 [i1] hI hn2 (by omega) (own_mem0 (own_e32 (by omega)))) pd_1 rfl rfl rfl (by decide) (Nat.le_of_ble_eq_true rfl) (by decide) (by decide) (pc' := 88) rfl ?_
  rintro _ h5 ⟨rfl, hI⟩
  show WP _ _ _ _ _ _ _ _ _ _ [(.int (0 : Int32))]
  refine WP.istore at_88 (pc' := 90) rfl (ls' := #[.val (.int a), .val (.int b), .val (.int d), .val (.int e), .val (.int f), .val (.int cI), .val (.int i1), .val (.int i2), .val (.int ix), .val (.int (0 : Int32)), .val (.ref q), .val (.int i1), .val (.int (0 : Int32)), .val (.int (0 : Int32)), .val (.int (1 : Int32)), .val (.int (1 : Int32)), .val (.int (0 : Int32)), .unset, .unset, .unset]) rfl ?_
  refine WP.iload at_90 rfl (pc' := 92) rfl ?_
  refine WP.iload at_92 rfl (pc' := 94) rfl ?_
  refine WP.icmpEq at_94 (tgt := 101) (by decide) (pc' := 97) rfl (fun c94 => ?_) (fun c94 => ?_)
  ·
    refine WP.iconst at_101 (z := (0 : Int32)) rfl (pc' := 102) rfl ?_
    refine WP.istore at_102 (pc' := 104) rfl (ls' := #[.val (.int a), .val (.int b), .val (.int d), .val (.int e), .val (.int f), .val (.int cI), .val (.int i1), .val (.int i2), .val (.int ix), .val (.int (0 : Int32)), .val (.ref q), .val (.int i1), .val (.int (0 : Int32)), .val (.int (0 : Int32)), .val (.int (1 : Int32)), .val (.int (1 : Int32)), .val (.int (0 : Int32)), .val (.int (0 : Int32)), .unset, .unset]) rfl ?_
    refine WP.iload at_104 rfl (pc' := 106) rfl ?_
    refine WP.iload at_106 rfl (pc' := 108) rfl ?_
    refine WP.iload at_108 rfl (pc' := 110) rfl ?_
    refine WP.icmpNe at_110 (tgt := 117) (by decide) (pc' := 113) rfl (fun c110 => ?_) (fun c110 => ?_)
    · exfalso; omega
    refine WP.iconst at_113 (z := (1 : Int32)) rfl (pc' := 114) rfl ?_
    refine WP.goto at_114 (pc' := 118) (by decide) ?_
    refine WP.iand at_118 (pc' := 119) rfl ?_
    rw [show (((1 : Int32) &&& (1 : Int32)) : Int32) = (1 : Int32) from by decide]
    refine WP.istore at_119 (pc' := 121) rfl (ls' := #[.val (.int a), .val (.int b), .val (.int d), .val (.int e), .val (.int f), .val (.int cI), .val (.int i1), .val (.int i2), .val (.int ix), .val (.int (0 : Int32)), .val (.ref q), .val (.int i1), .val (.int (0 : Int32)), .val (.int (0 : Int32)), .val (.int (1 : Int32)), .val (.int (1 : Int32)), .val (.int (0 : Int32)), .val (.int (0 : Int32)), .unset, .unset]) rfl ?_
    refine WP.iload at_121 rfl (pc' := 123) rfl ?_
    refine WP.ifEq at_123 (tgt := 133) (by decide) (pc' := 126) rfl (fun c123 => ?_) (fun c123 => ?_)
    ·
      refine WP.iload at_133 rfl (pc' := 135) rfl ?_
      refine WP.ifEq at_135 (tgt := 172) (by decide) (pc' := 138) rfl (fun c135 => ?_) (fun c135 => ?_)
      ·
        refine WP.iload at_172 rfl (pc' := 174) rfl ?_
        refine WP.iconst at_174 (z := (1 : Int32)) rfl (pc' := 175) rfl ?_
        refine WP.icmpLt at_175 (tgt := 185) (by decide) (pc' := 178) rfl (fun c175 => ?_) (fun c175 => ?_)
        · exfalso; omega
        refine WP.iload at_178 rfl (pc' := 180) rfl ?_
        refine WP.iload at_180 rfl (pc' := 182) rfl ?_
        refine WP.icmpEq at_182 (tgt := 198) (by decide) (pc' := 185) rfl (fun c182 => ?_) (fun c182 => ?_)
        ·
          refine WP.iconst at_198 (z := (1 : Int32)) rfl (pc' := 199) rfl ?_
          refine WP.goto at_199 (pc' := 203) (by decide) ?_
          refine WP.istore at_203 (pc' := 205) rfl (ls' := #[.val (.int a), .val (.int b), .val (.int d), .val (.int e), .val (.int f), .val (.int cI), .val (.int i1), .val (.int i2), .val (.int ix), .val (.int (0 : Int32)), .val (.ref q), .val (.int i1), .val (.int (0 : Int32)), .val (.int (0 : Int32)), .val (.int (1 : Int32)), .val (.int (1 : Int32)), .val (.int (0 : Int32)), .val (.int (0 : Int32)), .val (.int (1 : Int32)), .unset]) rfl ?_
          refine WP.aload at_205 rfl rfl (pc' := 207) rfl ?_
          refine WP.iload at_207 rfl (pc' := 209) rfl ?_
          refine WP.callV (a := q) (z := (⟨"com/example/singlet/singlet/propagation/IndexQueue", "add", "(I)Z"⟩ : MethodName)) (Cl := "com/example/singlet/singlet/propagation/IndexQueue") (y := (⟨"com/example/singlet/singlet/propagation/IndexQueue", "add", "(I)Z"⟩ : MethodName)) (By := B3) (as := [(.int ix)]) (rest := []) at_209 (w16 hw) (w17 hw) (w19 hw) (w18 hw) (w3 hw) (w20 hw) rfl rfl (by decide) hI.exa (add_in hw q ix c nx [i1] hI hnx (by omega) (own_mem0 (own_e32 (by omega)))) pd_1 rfl rfl rfl (by decide) (Nat.le_of_ble_eq_true rfl) (by decide) (by decide) (pc' := 212) rfl ?_
          rintro _ h6 ⟨rfl, hI⟩
          show WP _ _ _ _ _ _ _ _ _ _ [(.int (0 : Int32))]
          refine WP.istore at_212 (pc' := 214) rfl (ls' := #[.val (.int a), .val (.int b), .val (.int d), .val (.int e), .val (.int f), .val (.int cI), .val (.int i1), .val (.int i2), .val (.int ix), .val (.int (0 : Int32)), .val (.ref q), .val (.int i1), .val (.int (0 : Int32)), .val (.int (0 : Int32)), .val (.int (1 : Int32)), .val (.int (1 : Int32)), .val (.int (0 : Int32)), .val (.int (0 : Int32)), .val (.int (1 : Int32)), .val (.int (0 : Int32))]) rfl ?_
          refine WP.iload at_214 rfl (pc' := 216) rfl ?_
          refine WP.iload at_216 rfl (pc' := 218) rfl ?_
          refine WP.iload at_218 rfl (pc' := 220) rfl ?_
          refine WP.ifNe at_220 (tgt := 227) (by decide) (pc' := 223) rfl (fun c220 => ?_) (fun c220 => ?_)
          ·
            refine WP.iconst at_227 (z := (0 : Int32)) rfl (pc' := 228) rfl ?_
            refine WP.icmpNe at_228 (tgt := 235) (by decide) (pc' := 231) rfl (fun c228 => ?_) (fun c228 => ?_)
            · exfalso; omega
            refine WP.iconst at_231 (z := (1 : Int32)) rfl (pc' := 232) rfl ?_
            refine WP.goto at_232 (pc' := 236) (by decide) ?_
            refine WP.iand at_236 (pc' := 237) rfl ?_
            rw [show (((1 : Int32) &&& (1 : Int32)) : Int32) = (1 : Int32) from by decide]
            refine WP.istore at_237 (pc' := 239) rfl (ls' := #[.val (.int a), .val (.int b), .val (.int d), .val (.int e), .val (.int f), .val (.int cI), .val (.int i1), .val (.int i2), .val (.int ix), .val (.int (0 : Int32)), .val (.ref q), .val (.int i1), .val (.int (0 : Int32)), .val (.int (0 : Int32)), .val (.int (1 : Int32)), .val (.int (1 : Int32)), .val (.int (0 : Int32)), .val (.int (0 : Int32)), .val (.int (1 : Int32)), .val (.int (0 : Int32))]) rfl ?_
            refine WP.iload at_239 rfl (pc' := 241) rfl ?_
            refine WP.ifNe at_241 (tgt := 279) (by decide) (pc' := 244) rfl (fun c241 => ?_) (fun c241 => ?_)
            ·
              refine WP.iload at_279 rfl (pc' := 281) rfl ?_
              refine WP.aload at_281 rfl rfl (pc' := 283) rfl ?_
              refine WP.callV (a := q) (z := (⟨"com/example/singlet/singlet/propagation/IndexQueue", "size", "()I"⟩ : MethodName)) (Cl := "com/example/singlet/singlet/propagation/IndexQueue") (y := (⟨"com/example/singlet/singlet/propagation/IndexQueue", "size", "()I"⟩ : MethodName)) (By := B4) (as := []) (rest := [(.int (1 : Int32))]) at_283 (w25 hw) (w26 hw) (w28 hw) (w27 hw) (w3 hw) (w29 hw) rfl rfl (by decide) hI.exa (siz_met hw q c [i1] hI) pd_2 rfl rfl rfl (by decide) (Nat.le_of_ble_eq_true rfl) (by decide) (by decide) (pc' := 286) rfl ?_
              rintro _ h7 ⟨s, rfl, hs_, hI⟩
              obtain rfl : s = (1 : Int32) := own_e32 (by rw [hs_]; rfl)
              show WP _ _ _ _ _ _ _ _ _ _ [(.int (1 : Int32)), (.int (1 : Int32))]
              refine WP.iload at_286 rfl (pc' := 288) rfl ?_
              refine WP.icmpNe at_288 (tgt := 295) (by decide) (pc' := 291) rfl (fun c288 => ?_) (fun c288 => ?_)
              · exfalso; omega
              refine WP.iconst at_291 (z := (1 : Int32)) rfl (pc' := 292) rfl ?_
              refine WP.goto at_292 (pc' := 296) (by decide) ?_
              refine WP.iand at_296 (pc' := 297) rfl ?_
              rw [show (((1 : Int32) &&& (1 : Int32)) : Int32) = (1 : Int32) from by decide]
              refine WP.istore at_297 (pc' := 299) rfl (ls' := #[.val (.int a), .val (.int b), .val (.int d), .val (.int e), .val (.int f), .val (.int cI), .val (.int i1), .val (.int i2), .val (.int ix), .val (.int (0 : Int32)), .val (.ref q), .val (.int i1), .val (.int (0 : Int32)), .val (.int (0 : Int32)), .val (.int (1 : Int32)), .val (.int (1 : Int32)), .val (.int (0 : Int32)), .val (.int (0 : Int32)), .val (.int (1 : Int32)), .val (.int (0 : Int32))]) rfl ?_
              refine WP.iload at_299 rfl (pc' := 301) rfl ?_
              refine WP.aload at_301 rfl rfl (pc' := 303) rfl ?_
              refine WP.iload at_303 rfl (pc' := 305) rfl ?_
              refine WP.callV (a := q) (z := (⟨"com/example/singlet/singlet/propagation/IndexQueue", "contains", "(I)Z"⟩ : MethodName)) (Cl := "com/example/singlet/singlet/propagation/IndexQueue") (y := (⟨"com/example/singlet/singlet/propagation/IndexQueue", "contains", "(I)Z"⟩ : MethodName)) (By := B5) (as := [(.int ix)]) (rest := [(.int (1 : Int32))]) at_305 (w30 hw) (w31 hw) (w33 hw) (w32 hw) (w3 hw) (w34 hw) rfl rfl (by decide) hI.exa (con_met hw q ix c nx [i1] hI hnx (by omega) (own_mem0 (own_e32 (by omega)))) pd_1 rfl rfl rfl (by decide) (Nat.le_of_ble_eq_true rfl) (by decide) (by decide) (pc' := 308) rfl ?_
              rintro _ h8 ⟨rfl, hI⟩
              show WP _ _ _ _ _ _ _ _ _ _ [(.int (1 : Int32)), (.int (1 : Int32))]
              refine WP.iand at_308 (pc' := 309) rfl ?_
              rw [show (((1 : Int32) &&& (1 : Int32)) : Int32) = (1 : Int32) from by decide]
              refine WP.istore at_309 (pc' := 311) rfl (ls' := #[.val (.int a), .val (.int b), .val (.int d), .val (.int e), .val (.int f), .val (.int cI), .val (.int i1), .val (.int i2), .val (.int ix), .val (.int (0 : Int32)), .val (.ref q), .val (.int i1), .val (.int (0 : Int32)), .val (.int (0 : Int32)), .val (.int (1 : Int32)), .val (.int (1 : Int32)), .val (.int (0 : Int32)), .val (.int (0 : Int32)), .val (.int (1 : Int32)), .val (.int (0 : Int32))]) rfl ?_
              refine WP.iload at_311 rfl (pc' := 313) rfl ?_
              refine WP.iconst at_313 (z := (1 : Int32)) rfl (pc' := 314) rfl ?_
              refine WP.icmpLt at_314 (tgt := 337) (by decide) (pc' := 317) rfl (fun c314 => ?_) (fun c314 => ?_)
              · exfalso; omega
              refine WP.iload at_317 rfl (pc' := 319) rfl ?_
              refine WP.aload at_319 rfl rfl (pc' := 321) rfl ?_
              refine WP.callV (a := q) (z := (⟨"com/example/singlet/singlet/propagation/IndexQueue", "poll", "()I"⟩ : MethodName)) (Cl := "com/example/singlet/singlet/propagation/IndexQueue") (y := (⟨"com/example/singlet/singlet/propagation/IndexQueue", "poll", "()I"⟩ : MethodName)) (By := B6) (as := []) (rest := [(.int (1 : Int32))]) at_321 (w35 hw) (w36 hw) (w38 hw) (w37 hw) (w3 hw) (w39 hw) rfl rfl (by decide) hI.exa (pol_met hw q i1 c n1 [] hI hn1 (by omega) own_nmem0 cI hcI) pd_2 rfl rfl rfl (by decide) (Nat.le_of_ble_eq_true rfl) (by decide) (by decide) (pc' := 324) rfl ?_
              rintro _ h9 ⟨rfl, hI⟩
              show WP _ _ _ _ _ _ _ _ _ _ [(.int i1), (.int (1 : Int32))]
              refine WP.iload at_324 rfl (pc' := 326) rfl ?_
              refine WP.icmpNe at_326 (tgt := 333) (by decide) (pc' := 329) rfl (fun c326 => ?_) (fun c326 => ?_)
              · exfalso; omega
              refine WP.iconst at_329 (z := (1 : Int32)) rfl (pc' := 330) rfl ?_
              refine WP.goto at_330 (pc' := 334) (by decide) ?_
              refine WP.iand at_334 (pc' := 335) rfl ?_
              rw [show (((1 : Int32) &&& (1 : Int32)) : Int32) = (1 : Int32) from by decide]
              refine WP.istore at_335 (pc' := 337) rfl (ls' := #[.val (.int a), .val (.int b), .val (.int d), .val (.int e), .val (.int f), .val (.int cI), .val (.int i1), .val (.int i2), .val (.int ix), .val (.int (0 : Int32)), .val (.ref q), .val (.int i1), .val (.int (0 : Int32)), .val (.int (0 : Int32)), .val (.int (1 : Int32)), .val (.int (1 : Int32)), .val (.int (0 : Int32)), .val (.int (0 : Int32)), .val (.int (1 : Int32)), .val (.int (0 : Int32))]) rfl ?_
              refine WP.iload at_337 rfl (pc' := 339) rfl ?_
              refine WP.iconst at_339 (z := (2 : Int32)) rfl (pc' := 340) rfl ?_
              refine WP.icmpLt at_340 (tgt := 363) (by decide) (pc' := 343) rfl (fun c340 => ?_) (fun c340 => ?_)
              ·
                refine WP.iload at_363 rfl (pc' := 365) rfl ?_
                refine WP.iconst at_365 (z := (3 : Int32)) rfl (pc' := 366) rfl ?_
                refine WP.icmpLt at_366 (tgt := 389) (by decide) (pc' := 369) rfl (fun c366 => ?_) (fun c366 => ?_)
                ·
                  refine WP.iload at_389 rfl (pc' := 391) rfl ?_
                  exact WP.retN at_391 (t := .boolean) rfl (by simp) (by decide) (by decide) own_q1
                exfalso; omega
              exfalso; omega
            exfalso; omega
          exfalso; omega
        exfalso; omega
      exfalso; omega
    exfalso; omega
  exfalso; omega
theorem law_s0n {l : Launch} {Z : State} {a0 : Array Value} (hw : HW Z a0) {n0 : Nat} {h : Heap} (a b d e f cI i1 i2 ix : Int32) (c n1 n2 nx : Nat) (hcI : cI.toInt = (c : Int)) (h0 : 0 < c) (h4 : c ≤ 4) (hn1 : i1.toInt = (n1 : Int)) (hn2 : i2.toInt = (n2 : Int)) (hnx : ix.toInt = (nx : Int)) (hl1 : n1 < c) (hl2 : n2 < c) (hlx : nx < c) (hs : i2.toInt = i1.toInt) (hx : ix.toInt ≠ i1.toInt ∧ ix.toInt ≠ i2.toInt) : WP l B0 Z n0 (fun v h' => v = some (.int 1)) h 0 0 48 #[.val (.int a), .val (.int b), .val (.int d), .val (.int e), .val (.int f), .val (.int cI), .val (.int i1), .val (.int i2), .val (.int ix), .val (.int (0 : Int32)), .unset, .unset, .unset, .unset, .unset, .unset, .unset, .unset, .unset, .unset] [] := by
  have k32_0 : (0 : Int32).toInt = 0 := by decide
  have k32_1 : (1 : Int32).toInt = 1 := by decide
  have k32_2 : (2 : Int32).toInt = 2 := by decide
  have k32_3 : (3 : Int32).toInt = 3 := by decide
  refine WP.newobj (lay := L_IQ) (vs := [.null, .null, (.int 0), (.int 0)]) at_48 (w1 hw) (w2 hw) (w3 hw) (lay_IQ hw) rfl (by decide) (by decide) (pc' := 51) rfl ?_
  intro q h1 eb_q g_q K2 O_q
  refine WP.dup at_51 rfl (pc' := 52) rfl ?_
  refine WP.iload at_52 rfl (pc' := 54) rfl ?_
  refine WP.callI (a := q) (y := (⟨"com/example/singlet/singlet/propagation/IndexQueue", "<init>", "(I)V"⟩ : MethodName)) (By := B1) (as := [(.int cI)]) (rest := [(.ref q)]) at_54 (w4 hw) (w5 hw) (w3 hw) (w6 hw) rfl rfl (by decide) (ini_met hw q cI c hcI (by omega) (by omega) g_q O_q) pd_0 rfl rfl rfl (by decide) (Nat.le_of_ble_eq_true rfl) (by decide) (by decide) (pc' := 57) rfl ?_
  rintro _ h3 ⟨rfl, hI⟩
  show WP _ _ _ _ _ _ _ _ _ _ [(.ref q)]
  refine WP.astore at_57 (pc' := 59) rfl rfl (ls' := #[.val (.int a), .val (.int b), .val (.int d), .val (.int e), .val (.int f), .val (.int cI), .val (.int i1), .val (.int i2), .val (.int ix), .val (.int (0 : Int32)), .val (.ref q), .unset, .unset, .unset, .unset, .unset, .unset, .unset, .unset, .unset]) rfl ?_
  refine WP.iload at_59 rfl (pc' := 61) rfl ?_
  refine WP.istore at_61 (pc' := 63) rfl (ls' := #[.val (.int a), .val (.int b), .val (.int d), .val (.int e), .val (.int f), .val (.int cI), .val (.int i1), .val (.int i2), .val (.int ix), .val (.int (0 : Int32)), .val (.ref q), .val (.int i1), .unset, .unset, .unset, .unset, .unset, .unset, .unset, .unset]) rfl ?_
  refine WP.iconst at_63 (z := (0 : Int32)) rfl (pc' := 64) rfl ?_
  refine WP.istore at_64 (pc' := 66) rfl (ls' := #[.val (.int a), .val (.int b), .val (.int d), .val (.int e), .val (.int f), .val (.int cI), .val (.int i1), .val (.int i2), .val (.int ix), .val (.int (0 : Int32)), .val (.ref q), .val (.int i1), .val (.int (0 : Int32)), .unset, .unset, .unset, .unset, .unset, .unset, .unset]) rfl ?_
  refine WP.iconst at_66 (z := (0 : Int32)) rfl (pc' := 67) rfl ?_
  refine WP.istore at_67 (pc' := 69) rfl (ls' := #[.val (.int a), .val (.int b), .val (.int d), .val (.int e), .val (.int f), .val (.int cI), .val (.int i1), .val (.int i2), .val (.int ix), .val (.int (0 : Int32)), .val (.ref q), .val (.int i1), .val (.int (0 : Int32)), .val (.int (0 : Int32)), .unset, .unset, .unset, .unset, .unset, .unset]) rfl ?_
  refine WP.iconst at_69 (z := (1 : Int32)) rfl (pc' := 70) rfl ?_
  refine WP.istore at_70 (pc' := 72) rfl (ls' := #[.val (.int a), .val (.int b), .val (.int d), .val (.int e), .val (.int f), .val (.int cI), .val (.int i1), .val (.int i2), .val (.int ix), .val (.int (0 : Int32)), .val (.ref q), .val (.int i1), .val (.int (0 : Int32)), .val (.int (0 : Int32)), .val (.int (1 : Int32)), .unset, .unset, .unset, .unset, .unset]) rfl ?_
  refine WP.aload at_72 rfl rfl (pc' := 74) rfl ?_
  refine WP.iload at_74 rfl (pc' := 76) rfl ?_
  refine WP.callV (a := q) (z := (⟨"com/example/singlet/singlet/propagation/IndexQueue", "add", "(I)Z"⟩ : MethodName)) (Cl := "com/example/singlet/singlet/propagation/IndexQueue") (y := (⟨"com/example/singlet/singlet/propagation/IndexQueue", "add", "(I)Z"⟩ : MethodName)) (By := B3) (as := [(.int i1)]) (rest := []) at_76 (w16 hw) (w17 hw) (w19 hw) (w18 hw) (w3 hw) (w20 hw) rfl rfl (by decide) hI.exa (add_new hw q i1 c n1 [] hI hn1 (by omega) own_nmem0 (by show _ + 1 ≤ _; simp only [List.length_cons, List.length_nil]; omega) cI hcI) pd_1 rfl rfl rfl (by decide) (Nat.le_of_ble_eq_true rfl) (by decide) (by decide) (pc' := 79) rfl ?_
  rintro _ h4 ⟨rfl, hI⟩
  replace hI : IQ Z n0 _ q c [i1] := hI
  show WP _ _ _ _ _ _ _ _ _ _ [(.int (1 : Int32))]
  refine WP.istore at_79 (pc' := 81) rfl (ls' := #[.val (.int a), .val (.int b), .val (.int d), .val (.int e), .val (.int f), .val (.int cI), .val (.int i1), .val (.int i2), .val (.int ix), .val (.int (0 : Int32)), .val (.ref q), .val (.int i1), .val (.int (0 : Int32)), .val (.int (0 : Int32)), .val (.int (1 : Int32)), .val (.int (1 : Int32)), .unset, .unset, .unset, .unset]) rfl ?_
  refine WP.aload at_81 rfl rfl (pc' := 83) rfl ?_
  refine WP.iload at_83 rfl (pc' := 85) rfl ?_
  refine WP.callV (a := q) (z := (⟨"com/example/singlet/singlet/propagation/IndexQueue", "add", "(I)Z"⟩ : MethodName)) (Cl := "com/example/singlet/singlet/propagation/IndexQueue") (y := (⟨"com/example/singlet/singlet/propagation/IndexQueue", "add", "(I)Z"⟩ : MethodName)) (By := B3) (as := [(.int i2)]) (rest := []) at_85 (w16 hw) (w17 hw) (w19 hw) (w18 hw) (w3 hw) (w20 hw) rfl rfl (by decide) hI.exa (add_in hw q i2 c n2 [i1] hI hn2 (by omega) (own_mem0 (own_e32 (by omega)))) pd_1 rfl rfl rfl (by decide) (Nat.le_of_ble_eq_true rfl) (by decide) (by decide) (pc' := 88) rfl ?_
  rintro _ h5 ⟨rfl, hI⟩
  show WP _ _ _ _ _ _ _ _ _ _ [(.int (0 : Int32))]
  refine WP.istore at_88 (pc' := 90) rfl (ls' := #[.val (.int a), .val (.int b), .val (.int d), .val (.int e), .val (.int f), .val (.int cI), .val (.int i1), .val (.int i2), .val (.int ix), .val (.int (0 : Int32)), .val (.ref q), .val (.int i1), .val (.int (0 : Int32)), .val (.int (0 : Int32)), .val (.int (1 : Int32)), .val (.int (1 : Int32)), .val (.int (0 : Int32)), .unset, .unset, .unset]) rfl ?_
  refine WP.iload at_90 rfl (pc' := 92) rfl ?_
  refine WP.iload at_92 rfl (pc' := 94) rfl ?_
  refine WP.icmpEq at_94 (tgt := 101) (by decide) (pc' := 97) rfl (fun c94 => ?_) (fun c94 => ?_)
  ·
    refine WP.iconst at_101 (z := (0 : Int32)) rfl (pc' := 102) rfl ?_
    refine WP.istore at_102 (pc' := 104) rfl (ls' := #[.val (.int a), .val (.int b), .val (.int d), .val (.int e), .val (.int f), .val (.int cI), .val (.int i1), .val (.int i2), .val (.int ix), .val (.int (0 : Int32)), .val (.ref q), .val (.int i1), .val (.int (0 : Int32)), .val (.int (0 : Int32)), .val (.int (1 : Int32)), .val (.int (1 : Int32)), .val (.int (0 : Int32)), .val (.int (0 : Int32)), .unset, .unset]) rfl ?_
    refine WP.iload at_104 rfl (pc' := 106) rfl ?_
    refine WP.iload at_106 rfl (pc' := 108) rfl ?_
    refine WP.iload at_108 rfl (pc' := 110) rfl ?_
    refine WP.icmpNe at_110 (tgt := 117) (by decide) (pc' := 113) rfl (fun c110 => ?_) (fun c110 => ?_)
    · exfalso; omega
    refine WP.iconst at_113 (z := (1 : Int32)) rfl (pc' := 114) rfl ?_
    refine WP.goto at_114 (pc' := 118) (by decide) ?_
    refine WP.iand at_118 (pc' := 119) rfl ?_
    rw [show (((1 : Int32) &&& (1 : Int32)) : Int32) = (1 : Int32) from by decide]
    refine WP.istore at_119 (pc' := 121) rfl (ls' := #[.val (.int a), .val (.int b), .val (.int d), .val (.int e), .val (.int f), .val (.int cI), .val (.int i1), .val (.int i2), .val (.int ix), .val (.int (0 : Int32)), .val (.ref q), .val (.int i1), .val (.int (0 : Int32)), .val (.int (0 : Int32)), .val (.int (1 : Int32)), .val (.int (1 : Int32)), .val (.int (0 : Int32)), .val (.int (0 : Int32)), .unset, .unset]) rfl ?_
    refine WP.iload at_121 rfl (pc' := 123) rfl ?_
    refine WP.ifEq at_123 (tgt := 133) (by decide) (pc' := 126) rfl (fun c123 => ?_) (fun c123 => ?_)
    ·
      refine WP.iload at_133 rfl (pc' := 135) rfl ?_
      refine WP.ifEq at_135 (tgt := 172) (by decide) (pc' := 138) rfl (fun c135 => ?_) (fun c135 => ?_)
      ·
        refine WP.iload at_172 rfl (pc' := 174) rfl ?_
        refine WP.iconst at_174 (z := (1 : Int32)) rfl (pc' := 175) rfl ?_
        refine WP.icmpLt at_175 (tgt := 185) (by decide) (pc' := 178) rfl (fun c175 => ?_) (fun c175 => ?_)
        · exfalso; omega
        refine WP.iload at_178 rfl (pc' := 180) rfl ?_
        refine WP.iload at_180 rfl (pc' := 182) rfl ?_
        refine WP.icmpEq at_182 (tgt := 198) (by decide) (pc' := 185) rfl (fun c182 => ?_) (fun c182 => ?_)
        · exfalso; omega
        refine WP.iload at_185 rfl (pc' := 187) rfl ?_
        refine WP.iconst at_187 (z := (2 : Int32)) rfl (pc' := 188) rfl ?_
        refine WP.icmpLt at_188 (tgt := 202) (by decide) (pc' := 191) rfl (fun c188 => ?_) (fun c188 => ?_)
        ·
          refine WP.iconst at_202 (z := (0 : Int32)) rfl (pc' := 203) rfl ?_
          refine WP.istore at_203 (pc' := 205) rfl (ls' := #[.val (.int a), .val (.int b), .val (.int d), .val (.int e), .val (.int f), .val (.int cI), .val (.int i1), .val (.int i2), .val (.int ix), .val (.int (0 : Int32)), .val (.ref q), .val (.int i1), .val (.int (0 : Int32)), .val (.int (0 : Int32)), .val (.int (1 : Int32)), .val (.int (1 : Int32)), .val (.int (0 : Int32)), .val (.int (0 : Int32)), .val (.int (0 : Int32)), .unset]) rfl ?_
          refine WP.aload at_205 rfl rfl (pc' := 207) rfl ?_
          refine WP.iload at_207 rfl (pc' := 209) rfl ?_
          refine WP.callV (a := q) (z := (⟨"com/example/singlet/singlet/propagation/IndexQueue", "add", "(I)Z"⟩ : MethodName)) (Cl := "com/example/singlet/singlet/propagation/IndexQueue") (y := (⟨"com/example/singlet/singlet/propagation/IndexQueue", "add", "(I)Z"⟩ : MethodName)) (By := B3) (as := [(.int ix)]) (rest := []) at_209 (w16 hw) (w17 hw) (w19 hw) (w18 hw) (w3 hw) (w20 hw) rfl rfl (by decide) hI.exa (add_new hw q ix c nx [i1] hI hnx (by omega) (own_nmem (own_ne (by omega)) own_nmem0) (by show _ + 1 ≤ _; simp only [List.length_cons, List.length_nil]; omega) cI hcI) pd_1 rfl rfl rfl (by decide) (Nat.le_of_ble_eq_true rfl) (by decide) (by decide) (pc' := 212) rfl ?_
          rintro _ h6 ⟨rfl, hI⟩
          replace hI : IQ Z n0 _ q c [i1, ix] := hI
          show WP _ _ _ _ _ _ _ _ _ _ [(.int (1 : Int32))]
          refine WP.istore at_212 (pc' := 214) rfl (ls' := #[.val (.int a), .val (.int b), .val (.int d), .val (.int e), .val (.int f), .val (.int cI), .val (.int i1), .val (.int i2), .val (.int ix), .val (.int (0 : Int32)), .val (.ref q), .val (.int i1), .val (.int (0 : Int32)), .val (.int (0 : Int32)), .val (.int (1 : Int32)), .val (.int (1 : Int32)), .val (.int (0 : Int32)), .val (.int (0 : Int32)), .val (.int (0 : Int32)), .val (.int (1 : Int32))]) rfl ?_
          refine WP.iload at_214 rfl (pc' := 216) rfl ?_
          refine WP.iload at_216 rfl (pc' := 218) rfl ?_
          refine WP.iload at_218 rfl (pc' := 220) rfl ?_
          refine WP.ifNe at_220 (tgt := 227) (by decide) (pc' := 223) rfl (fun c220 => ?_) (fun c220 => ?_)
          · exfalso; omega
          refine WP.iconst at_223 (z := (1 : Int32)) rfl (pc' := 224) rfl ?_
          refine WP.goto at_224 (pc' := 228) (by decide) ?_
          refine WP.icmpNe at_228 (tgt := 235) (by decide) (pc' := 231) rfl (fun c228 => ?_) (fun c228 => ?_)
          · exfalso; omega
          refine WP.iconst at_231 (z := (1 : Int32)) rfl (pc' := 232) rfl ?_
          refine WP.goto at_232 (pc' := 236) (by decide) ?_
          refine WP.iand at_236 (pc' := 237) rfl ?_
          rw [show (((1 : Int32) &&& (1 : Int32)) : Int32) = (1 : Int32) from by decide]
          refine WP.istore at_237 (pc' := 239) rfl (ls' := #[.val (.int a), .val (.int b), .val (.int d), .val (.int e), .val (.int f), .val (.int cI), .val (.int i1), .val (.int i2), .val (.int ix), .val (.int (0 : Int32)), .val (.ref q), .val (.int i1), .val (.int (0 : Int32)), .val (.int (0 : Int32)), .val (.int (1 : Int32)), .val (.int (1 : Int32)), .val (.int (0 : Int32)), .val (.int (0 : Int32)), .val (.int (0 : Int32)), .val (.int (1 : Int32))]) rfl ?_
          refine WP.iload at_239 rfl (pc' := 241) rfl ?_
          refine WP.ifNe at_241 (tgt := 279) (by decide) (pc' := 244) rfl (fun c241 => ?_) (fun c241 => ?_)
          · exfalso; omega
          refine WP.iload at_244 rfl (pc' := 246) rfl ?_
          refine WP.ifNe at_246 (tgt := 256) (by decide) (pc' := 249) rfl (fun c246 => ?_) (fun c246 => ?_)
          ·
            refine WP.iload at_256 rfl (pc' := 258) rfl ?_
            refine WP.iconst at_258 (z := (1 : Int32)) rfl (pc' := 259) rfl ?_
            refine WP.icmpNe at_259 (tgt := 269) (by decide) (pc' := 262) rfl (fun c259 => ?_) (fun c259 => ?_)
            · exfalso; omega
            refine WP.iload at_262 rfl (pc' := 264) rfl ?_
            refine WP.istore at_264 (pc' := 266) rfl (ls' := #[.val (.int a), .val (.int b), .val (.int d), .val (.int e), .val (.int f), .val (.int cI), .val (.int i1), .val (.int i2), .val (.int ix), .val (.int (0 : Int32)), .val (.ref q), .val (.int i1), .val (.int ix), .val (.int (0 : Int32)), .val (.int (1 : Int32)), .val (.int (1 : Int32)), .val (.int (0 : Int32)), .val (.int (0 : Int32)), .val (.int (0 : Int32)), .val (.int (1 : Int32))]) rfl ?_
            refine WP.goto at_266 (pc' := 273) (by decide) ?_
            refine WP.iload at_273 rfl (pc' := 275) rfl ?_
            refine WP.iconst at_275 (z := (1 : Int32)) rfl (pc' := 276) rfl ?_
            refine WP.iadd at_276 (pc' := 277) rfl ?_
            rw [show (((1 : Int32) + (1 : Int32)) : Int32) = (2 : Int32) from by decide]
            refine WP.istore at_277 (pc' := 279) rfl (ls' := #[.val (.int a), .val (.int b), .val (.int d), .val (.int e), .val (.int f), .val (.int cI), .val (.int i1), .val (.int i2), .val (.int ix), .val (.int (0 : Int32)), .val (.ref q), .val (.int i1), .val (.int ix), .val (.int (0 : Int32)), .val (.int (2 : Int32)), .val (.int (1 : Int32)), .val (.int (0 : Int32)), .val (.int (0 : Int32)), .val (.int (0 : Int32)), .val (.int (1 : Int32))]) rfl ?_
            refine WP.iload at_279 rfl (pc' := 281) rfl ?_
            refine WP.aload at_281 rfl rfl (pc' := 283) rfl ?_
            refine WP.callV (a := q) (z := (⟨"com/example/singlet/singlet/propagation/IndexQueue", "size", "()I"⟩ : MethodName)) (Cl := "com/example/singlet/singlet/propagation/IndexQueue") (y := (⟨"com/example/singlet/singlet/propagation/IndexQueue", "size", "()I"⟩ : MethodName)) (By := B4) (as := []) (rest := [(.int (1 : Int32))]) at_283 (w25 hw) (w26 hw) (w28 hw) (w27 hw) (w3 hw) (w29 hw) rfl rfl (by decide) hI.exa (siz_met hw q c [i1, ix] hI) pd_2 rfl rfl rfl (by decide) (Nat.le_of_ble_eq_true rfl) (by decide) (by decide) (pc' := 286) rfl ?_
            rintro _ h7 ⟨s, rfl, hs_, hI⟩
            obtain rfl : s = (2 : Int32) := own_e32 (by rw [hs_]; rfl)
            show WP _ _ _ _ _ _ _ _ _ _ [(.int (2 : Int32)), (.int (1 : Int32))]
            refine WP.iload at_286 rfl (pc' := 288) rfl ?_
            refine WP.icmpNe at_288 (tgt := 295) (by decide) (pc' := 291) rfl (fun c288 => ?_) (fun c288 => ?_)
            · exfalso; omega
            refine WP.iconst at_291 (z := (1 : Int32)) rfl (pc' := 292) rfl ?_
            refine WP.goto at_292 (pc' := 296) (by decide) ?_
            refine WP.iand at_296 (pc' := 297) rfl ?_
            rw [show (((1 : Int32) &&& (1 : Int32)) : Int32) = (1 : Int32) from by decide]
            refine WP.istore at_297 (pc' := 299) rfl (ls' := #[.val (.int a), .val (.int b), .val (.int d), .val (.int e), .val (.int f), .val (.int cI), .val (.int i1), .val (.int i2), .val (.int ix), .val (.int (0 : Int32)), .val (.ref q), .val (.int i1), .val (.int ix), .val (.int (0 : Int32)), .val (.int (2 : Int32)), .val (.int (1 : Int32)), .val (.int (0 : Int32)), .val (.int (0 : Int32)), .val (.int (0 : Int32)), .val (.int (1 : Int32))]) rfl ?_
            refine WP.iload at_299 rfl (pc' := 301) rfl ?_
            refine WP.aload at_301 rfl rfl (pc' := 303) rfl ?_
            refine WP.iload at_303 rfl (pc' := 305) rfl ?_
            refine WP.callV (a := q) (z := (⟨"com/example/singlet/singlet/propagation/IndexQueue", "contains", "(I)Z"⟩ : MethodName)) (Cl := "com/example/singlet/singlet/propagation/IndexQueue") (y := (⟨"com/example/singlet/singlet/propagation/IndexQueue", "contains", "(I)Z"⟩ : MethodName)) (By := B5) (as := [(.int ix)]) (rest := [(.int (1 : Int32))]) at_305 (w30 hw) (w31 hw) (w33 hw) (w32 hw) (w3 hw) (w34 hw) rfl rfl (by decide) hI.exa (con_met hw q ix c nx [i1, ix] hI hnx (by omega) (own_mem1 (own_e32 (by omega)))) pd_1 rfl rfl rfl (by decide) (Nat.le_of_ble_eq_true rfl) (by decide) (by decide) (pc' := 308) rfl ?_
            rintro _ h8 ⟨rfl, hI⟩
            show WP _ _ _ _ _ _ _ _ _ _ [(.int (1 : Int32)), (.int (1 : Int32))]
            refine WP.iand at_308 (pc' := 309) rfl ?_
            rw [show (((1 : Int32) &&& (1 : Int32)) : Int32) = (1 : Int32) from by decide]
            refine WP.istore at_309 (pc' := 311) rfl (ls' := #[.val (.int a), .val (.int b), .val (.int d), .val (.int e), .val (.int f), .val (.int cI), .val (.int i1), .val (.int i2), .val (.int ix), .val (.int (0 : Int32)), .val (.ref q), .val (.int i1), .val (.int ix), .val (.int (0 : Int32)), .val (.int (2 : Int32)), .val (.int (1 : Int32)), .val (.int (0 : Int32)), .val (.int (0 : Int32)), .val (.int (0 : Int32)), .val (.int (1 : Int32))]) rfl ?_
            refine WP.iload at_311 rfl (pc' := 313) rfl ?_
            refine WP.iconst at_313 (z := (1 : Int32)) rfl (pc' := 314) rfl ?_
            refine WP.icmpLt at_314 (tgt := 337) (by decide) (pc' := 317) rfl (fun c314 => ?_) (fun c314 => ?_)
            · exfalso; omega
            refine WP.iload at_317 rfl (pc' := 319) rfl ?_
            refine WP.aload at_319 rfl rfl (pc' := 321) rfl ?_
            refine WP.callV (a := q) (z := (⟨"com/example/singlet/singlet/propagation/IndexQueue", "poll", "()I"⟩ : MethodName)) (Cl := "com/example/singlet/singlet/propagation/IndexQueue") (y := (⟨"com/example/singlet/singlet/propagation/IndexQueue", "poll", "()I"⟩ : MethodName)) (By := B6) (as := []) (rest := [(.int (1 : Int32))]) at_321 (w35 hw) (w36 hw) (w38 hw) (w37 hw) (w3 hw) (w39 hw) rfl rfl (by decide) hI.exa (pol_met hw q i1 c n1 [ix] hI hn1 (by omega) (own_nmem (own_ne (by omega)) own_nmem0) cI hcI) pd_2 rfl rfl rfl (by decide) (Nat.le_of_ble_eq_true rfl) (by decide) (by decide) (pc' := 324) rfl ?_
            rintro _ h9 ⟨rfl, hI⟩
            show WP _ _ _ _ _ _ _ _ _ _ [(.int i1), (.int (1 : Int32))]
            refine WP.iload at_324 rfl (pc' := 326) rfl ?_
            refine WP.icmpNe at_326 (tgt := 333) (by decide) (pc' := 329) rfl (fun c326 => ?_) (fun c326 => ?_)
            · exfalso; omega
            refine WP.iconst at_329 (z := (1 : Int32)) rfl (pc' := 330) rfl ?_
            refine WP.goto at_330 (pc' := 334) (by decide) ?_
            refine WP.iand at_334 (pc' := 335) rfl ?_
            rw [show (((1 : Int32) &&& (1 : Int32)) : Int32) = (1 : Int32) from by decide]
            refine WP.istore at_335 (pc' := 337) rfl (ls' := #[.val (.int a), .val (.int b), .val (.int d), .val (.int e), .val (.int f), .val (.int cI), .val (.int i1), .val (.int i2), .val (.int ix), .val (.int (0 : Int32)), .val (.ref q), .val (.int i1), .val (.int ix), .val (.int (0 : Int32)), .val (.int (2 : Int32)), .val (.int (1 : Int32)), .val (.int (0 : Int32)), .val (.int (0 : Int32)), .val (.int (0 : Int32)), .val (.int (1 : Int32))]) rfl ?_
            refine WP.iload at_337 rfl (pc' := 339) rfl ?_
            refine WP.iconst at_339 (z := (2 : Int32)) rfl (pc' := 340) rfl ?_
            refine WP.icmpLt at_340 (tgt := 363) (by decide) (pc' := 343) rfl (fun c340 => ?_) (fun c340 => ?_)
            · exfalso; omega
            refine WP.iload at_343 rfl (pc' := 345) rfl ?_
            refine WP.aload at_345 rfl rfl (pc' := 347) rfl ?_
            refine WP.callV (a := q) (z := (⟨"com/example/singlet/singlet/propagation/IndexQueue", "poll", "()I"⟩ : MethodName)) (Cl := "com/example/singlet/singlet/propagation/IndexQueue") (y := (⟨"com/example/singlet/singlet/propagation/IndexQueue", "poll", "()I"⟩ : MethodName)) (By := B6) (as := []) (rest := [(.int (1 : Int32))]) at_347 (w35 hw) (w36 hw) (w38 hw) (w37 hw) (w3 hw) (w39 hw) rfl rfl (by decide) hI.exa (pol_met hw q ix c nx [] hI hnx (by omega) own_nmem0 cI hcI) pd_2 rfl rfl rfl (by decide) (Nat.le_of_ble_eq_true rfl) (by decide) (by decide) (pc' := 350) rfl ?_
            rintro _ h10 ⟨rfl, hI⟩
            show WP _ _ _ _ _ _ _ _ _ _ [(.int ix), (.int (1 : Int32))]
            refine WP.iload at_350 rfl (pc' := 352) rfl ?_
            refine WP.icmpNe at_352 (tgt := 359) (by decide) (pc' := 355) rfl (fun c352 => ?_) (fun c352 => ?_)
            · exfalso; omega
            refine WP.iconst at_355 (z := (1 : Int32)) rfl (pc' := 356) rfl ?_
            refine WP.goto at_356 (pc' := 360) (by decide) ?_
            refine WP.iand at_360 (pc' := 361) rfl ?_
            rw [show (((1 : Int32) &&& (1 : Int32)) : Int32) = (1 : Int32) from by decide]
            refine WP.istore at_361 (pc' := 363) rfl (ls' := #[.val (.int a), .val (.int b), .val (.int d), .val (.int e), .val (.int f), .val (.int cI), .val (.int i1), .val (.int i2), .val (.int ix), .val (.int (0 : Int32)), .val (.ref q), .val (.int i1), .val (.int ix), .val (.int (0 : Int32)), .val (.int (2 : Int32)), .val (.int (1 : Int32)), .val (.int (0 : Int32)), .val (.int (0 : Int32)), .val (.int (0 : Int32)), .val (.int (1 : Int32))]) rfl ?_
            refine WP.iload at_363 rfl (pc' := 365) rfl ?_
            refine WP.iconst at_365 (z := (3 : Int32)) rfl (pc' := 366) rfl ?_
            refine WP.icmpLt at_366 (tgt := 389) (by decide) (pc' := 369) rfl (fun c366 => ?_) (fun c366 => ?_)
            ·
              refine WP.iload at_389 rfl (pc' := 391) rfl ?_
              exact WP.retN at_391 (t := .boolean) rfl (by simp) (by decide) (by decide) own_q1
            exfalso; omega
          exfalso; omega
        exfalso; omega
      exfalso; omega
    exfalso; omega
  exfalso; omega
theorem law_s1 {l : Launch} {Z : State} {a0 : Array Value} (hw : HW Z a0) {n0 : Nat} {h : Heap} (a b d e f cI i1 i2 ix : Int32) (c n1 n2 nx : Nat) (hcI : cI.toInt = (c : Int)) (h0 : 0 < c) (h4 : c ≤ 4) (hn1 : i1.toInt = (n1 : Int)) (hn2 : i2.toInt = (n2 : Int)) (hnx : ix.toInt = (nx : Int)) (hl1 : n1 < c) (hl2 : n2 < c) (hlx : nx < c) (hs : i2.toInt = i1.toInt) : WP l B0 Z n0 (fun v h' => v = some (.int 1)) h 0 0 48 #[.val (.int a), .val (.int b), .val (.int d), .val (.int e), .val (.int f), .val (.int cI), .val (.int i1), .val (.int i2), .val (.int ix), .val (.int (1 : Int32)), .unset, .unset, .unset, .unset, .unset, .unset, .unset, .unset, .unset, .unset] [] := by
  have k32_0 : (0 : Int32).toInt = 0 := by decide
  have k32_1 : (1 : Int32).toInt = 1 := by decide
  have k32_2 : (2 : Int32).toInt = 2 := by decide
  have k32_3 : (3 : Int32).toInt = 3 := by decide
  refine WP.newobj (lay := L_IQ) (vs := [.null, .null, (.int 0), (.int 0)]) at_48 (w1 hw) (w2 hw) (w3 hw) (lay_IQ hw) rfl (by decide) (by decide) (pc' := 51) rfl ?_
  intro q h1 eb_q g_q K2 O_q
  refine WP.dup at_51 rfl (pc' := 52) rfl ?_
  refine WP.iload at_52 rfl (pc' := 54) rfl ?_
  refine WP.callI (a := q) (y := (⟨"com/example/singlet/singlet/propagation/IndexQueue", "<init>", "(I)V"⟩ : MethodName)) (By := B1) (as := [(.int cI)]) (rest := [(.ref q)]) at_54 (w4 hw) (w5 hw) (w3 hw) (w6 hw) rfl rfl (by decide) (ini_met hw q cI c hcI (by omega) (by omega) g_q O_q) pd_0 rfl rfl rfl (by decide) (Nat.le_of_ble_eq_true rfl) (by decide) (by decide) (pc' := 57) rfl ?_
  rintro _ h3 ⟨rfl, hI⟩
  show WP _ _ _ _ _ _ _ _ _ _ [(.ref q)]
  refine WP.astore at_57 (pc' := 59) rfl rfl (ls' := #[.val (.int a), .val (.int b), .val (.int d), .val (.int e), .val (.int f), .val (.int cI), .val (.int i1), .val (.int i2), .val (.int ix), .val (.int (1 : Int32)), .val (.ref q), .unset, .unset, .unset, .unset, .unset, .unset, .unset, .unset, .unset]) rfl ?_
  refine WP.iload at_59 rfl (pc' := 61) rfl ?_
  refine WP.istore at_61 (pc' := 63) rfl (ls' := #[.val (.int a), .val (.int b), .val (.int d), .val (.int e), .val (.int f), .val (.int cI), .val (.int i1), .val (.int i2), .val (.int ix), .val (.int (1 : Int32)), .val (.ref q), .val (.int i1), .unset, .unset, .unset, .unset, .unset, .unset, .unset, .unset]) rfl ?_
  refine WP.iconst at_63 (z := (0 : Int32)) rfl (pc' := 64) rfl ?_
  refine WP.istore at_64 (pc' := 66) rfl (ls' := #[.val (.int a), .val (.int b), .val (.int d), .val (.int e), .val (.int f), .val (.int cI), .val (.int i1), .val (.int i2), .val (.int ix), .val (.int (1 : Int32)), .val (.ref q), .val (.int i1), .val (.int (0 : Int32)), .unset, .unset, .unset, .unset, .unset, .unset, .unset]) rfl ?_
  refine WP.iconst at_66 (z := (0 : Int32)) rfl (pc' := 67) rfl ?_
  refine WP.istore at_67 (pc' := 69) rfl (ls' := #[.val (.int a), .val (.int b), .val (.int d), .val (.int e), .val (.int f), .val (.int cI), .val (.int i1), .val (.int i2), .val (.int ix), .val (.int (1 : Int32)), .val (.ref q), .val (.int i1), .val (.int (0 : Int32)), .val (.int (0 : Int32)), .unset, .unset, .unset, .unset, .unset, .unset]) rfl ?_
  refine WP.iconst at_69 (z := (1 : Int32)) rfl (pc' := 70) rfl ?_
  refine WP.istore at_70 (pc' := 72) rfl (ls' := #[.val (.int a), .val (.int b), .val (.int d), .val (.int e), .val (.int f), .val (.int cI), .val (.int i1), .val (.int i2), .val (.int ix), .val (.int (1 : Int32)), .val (.ref q), .val (.int i1), .val (.int (0 : Int32)), .val (.int (0 : Int32)), .val (.int (1 : Int32)), .unset, .unset, .unset, .unset, .unset]) rfl ?_
  refine WP.aload at_72 rfl rfl (pc' := 74) rfl ?_
  refine WP.iload at_74 rfl (pc' := 76) rfl ?_
  refine WP.callV (a := q) (z := (⟨"com/example/singlet/singlet/propagation/IndexQueue", "add", "(I)Z"⟩ : MethodName)) (Cl := "com/example/singlet/singlet/propagation/IndexQueue") (y := (⟨"com/example/singlet/singlet/propagation/IndexQueue", "add", "(I)Z"⟩ : MethodName)) (By := B3) (as := [(.int i1)]) (rest := []) at_76 (w16 hw) (w17 hw) (w19 hw) (w18 hw) (w3 hw) (w20 hw) rfl rfl (by decide) hI.exa (add_new hw q i1 c n1 [] hI hn1 (by omega) own_nmem0 (by show _ + 1 ≤ _; simp only [List.length_cons, List.length_nil]; omega) cI hcI) pd_1 rfl rfl rfl (by decide) (Nat.le_of_ble_eq_true rfl) (by decide) (by decide) (pc' := 79) rfl ?_
  rintro _ h4 ⟨rfl, hI⟩
  replace hI : IQ Z n0 _ q c [i1] := hI
  show WP _ _ _ _ _ _ _ _ _ _ [(.int (1 : Int32))]
  refine WP.istore at_79 (pc' := 81) rfl (ls' := #[.val (.int a), .val (.int b), .val (.int d), .val (.int e), .val (.int f), .val (.int cI), .val (.int i1), .val (.int i2), .val (.int ix), .val (.int (1 : Int32)), .val (.ref q), .val (.int i1), .val (.int (0 : Int32)), .val (.int (0 : Int32)), .val (.int (1 : Int32)), .val (.int (1 : Int32)), .unset, .unset, .unset, .unset]) rfl ?_
  refine WP.aload at_81 rfl rfl (pc' := 83) rfl ?_
  refine WP.iload at_83 rfl (pc' := 85) rfl ?_
  refine WP.callV (a := q) (z := (⟨"com/example/singlet/singlet/propagation/IndexQueue", "add", "(I)Z"⟩ : MethodName)) (Cl := "com/example/singlet/singlet/propagation/IndexQueue") (y := (⟨"com/example/singlet/singlet/propagation/IndexQueue", "add", "(I)Z"⟩ : MethodName)) (By := B3) (as := [(.int i2)]) (rest := []) at_85 (w16 hw) (w17 hw) (w19 hw) (w18 hw) (w3 hw) (w20 hw) rfl rfl (by decide) hI.exa (add_in hw q i2 c n2 [i1] hI hn2 (by omega) (own_mem0 (own_e32 (by omega)))) pd_1 rfl rfl rfl (by decide) (Nat.le_of_ble_eq_true rfl) (by decide) (by decide) (pc' := 88) rfl ?_
  rintro _ h5 ⟨rfl, hI⟩
  show WP _ _ _ _ _ _ _ _ _ _ [(.int (0 : Int32))]
  refine WP.istore at_88 (pc' := 90) rfl (ls' := #[.val (.int a), .val (.int b), .val (.int d), .val (.int e), .val (.int f), .val (.int cI), .val (.int i1), .val (.int i2), .val (.int ix), .val (.int (1 : Int32)), .val (.ref q), .val (.int i1), .val (.int (0 : Int32)), .val (.int (0 : Int32)), .val (.int (1 : Int32)), .val (.int (1 : Int32)), .val (.int (0 : Int32)), .unset, .unset, .unset]) rfl ?_
  refine WP.iload at_90 rfl (pc' := 92) rfl ?_
  refine WP.iload at_92 rfl (pc' := 94) rfl ?_
  refine WP.icmpEq at_94 (tgt := 101) (by decide) (pc' := 97) rfl (fun c94 => ?_) (fun c94 => ?_)
  ·
    refine WP.iconst at_101 (z := (0 : Int32)) rfl (pc' := 102) rfl ?_
    refine WP.istore at_102 (pc' := 104) rfl (ls' := #[.val (.int a), .val (.int b), .val (.int d), .val (.int e), .val (.int f), .val (.int cI), .val (.int i1), .val (.int i2), .val (.int ix), .val (.int (1 : Int32)), .val (.ref q), .val (.int i1), .val (.int (0 : Int32)), .val (.int (0 : Int32)), .val (.int (1 : Int32)), .val (.int (1 : Int32)), .val (.int (0 : Int32)), .val (.int (0 : Int32)), .unset, .unset]) rfl ?_
    refine WP.iload at_104 rfl (pc' := 106) rfl ?_
    refine WP.iload at_106 rfl (pc' := 108) rfl ?_
    refine WP.iload at_108 rfl (pc' := 110) rfl ?_
    refine WP.icmpNe at_110 (tgt := 117) (by decide) (pc' := 113) rfl (fun c110 => ?_) (fun c110 => ?_)
    · exfalso; omega
    refine WP.iconst at_113 (z := (1 : Int32)) rfl (pc' := 114) rfl ?_
    refine WP.goto at_114 (pc' := 118) (by decide) ?_
    refine WP.iand at_118 (pc' := 119) rfl ?_
    rw [show (((1 : Int32) &&& (1 : Int32)) : Int32) = (1 : Int32) from by decide]
    refine WP.istore at_119 (pc' := 121) rfl (ls' := #[.val (.int a), .val (.int b), .val (.int d), .val (.int e), .val (.int f), .val (.int cI), .val (.int i1), .val (.int i2), .val (.int ix), .val (.int (1 : Int32)), .val (.ref q), .val (.int i1), .val (.int (0 : Int32)), .val (.int (0 : Int32)), .val (.int (1 : Int32)), .val (.int (1 : Int32)), .val (.int (0 : Int32)), .val (.int (0 : Int32)), .unset, .unset]) rfl ?_
    refine WP.iload at_121 rfl (pc' := 123) rfl ?_
    refine WP.ifEq at_123 (tgt := 133) (by decide) (pc' := 126) rfl (fun c123 => ?_) (fun c123 => ?_)
    ·
      refine WP.iload at_133 rfl (pc' := 135) rfl ?_
      refine WP.ifEq at_135 (tgt := 172) (by decide) (pc' := 138) rfl (fun c135 => ?_) (fun c135 => ?_)
      · exfalso; omega
      refine WP.aload at_138 rfl rfl (pc' := 140) rfl ?_
      refine WP.callV (a := q) (z := (⟨"com/example/singlet/singlet/propagation/IndexQueue", "poll", "()I"⟩ : MethodName)) (Cl := "com/example/singlet/singlet/propagation/IndexQueue") (y := (⟨"com/example/singlet/singlet/propagation/IndexQueue", "poll", "()I"⟩ : MethodName)) (By := B6) (as := []) (rest := []) at_140 (w35 hw) (w36 hw) (w38 hw) (w37 hw) (w3 hw) (w39 hw) rfl rfl (by decide) hI.exa (pol_met hw q i1 c n1 [] hI hn1 (by omega) own_nmem0 cI hcI) pd_2 rfl rfl rfl (by decide) (Nat.le_of_ble_eq_true rfl) (by decide) (by decide) (pc' := 143) rfl ?_
      rintro _ h6 ⟨rfl, hI⟩
      show WP _ _ _ _ _ _ _ _ _ _ [(.int i1)]
      refine WP.istore at_143 (pc' := 145) rfl (ls' := #[.val (.int a), .val (.int b), .val (.int d), .val (.int e), .val (.int f), .val (.int cI), .val (.int i1), .val (.int i2), .val (.int ix), .val (.int (1 : Int32)), .val (.ref q), .val (.int i1), .val (.int (0 : Int32)), .val (.int (0 : Int32)), .val (.int (1 : Int32)), .val (.int (1 : Int32)), .val (.int (0 : Int32)), .val (.int (0 : Int32)), .val (.int i1), .unset]) rfl ?_
      refine WP.iload at_145 rfl (pc' := 147) rfl ?_
      refine WP.iload at_147 rfl (pc' := 149) rfl ?_
      refine WP.iload at_149 rfl (pc' := 151) rfl ?_
      refine WP.icmpNe at_151 (tgt := 158) (by decide) (pc' := 154) rfl (fun c151 => ?_) (fun c151 => ?_)
      · exfalso; omega
      refine WP.iconst at_154 (z := (1 : Int32)) rfl (pc' := 155) rfl ?_
      refine WP.goto at_155 (pc' := 159) (by decide) ?_
      refine WP.iand at_159 (pc' := 160) rfl ?_
      rw [show (((1 : Int32) &&& (1 : Int32)) : Int32) = (1 : Int32) from by decide]
      refine WP.istore at_160 (pc' := 162) rfl (ls' := #[.val (.int a), .val (.int b), .val (.int d), .val (.int e), .val (.int f), .val (.int cI), .val (.int i1), .val (.int i2), .val (.int ix), .val (.int (1 : Int32)), .val (.ref q), .val (.int i1), .val (.int (0 : Int32)), .val (.int (0 : Int32)), .val (.int (1 : Int32)), .val (.int (1 : Int32)), .val (.int (0 : Int32)), .val (.int (0 : Int32)), .val (.int i1), .unset]) rfl ?_
      refine WP.iload at_162 rfl (pc' := 164) rfl ?_
      refine WP.istore at_164 (pc' := 166) rfl (ls' := #[.val (.int a), .val (.int b), .val (.int d), .val (.int e), .val (.int f), .val (.int cI), .val (.int i1), .val (.int i2), .val (.int ix), .val (.int (1 : Int32)), .val (.ref q), .val (.int (0 : Int32)), .val (.int (0 : Int32)), .val (.int (0 : Int32)), .val (.int (1 : Int32)), .val (.int (1 : Int32)), .val (.int (0 : Int32)), .val (.int (0 : Int32)), .val (.int i1), .unset]) rfl ?_
      refine WP.iload at_166 rfl (pc' := 168) rfl ?_
      refine WP.iconst at_168 (z := (1 : Int32)) rfl (pc' := 169) rfl ?_
      refine WP.isub at_169 (pc' := 170) rfl ?_
      rw [show (((1 : Int32) - (1 : Int32)) : Int32) = (0 : Int32) from by decide]
      refine WP.istore at_170 (pc' := 172) rfl (ls' := #[.val (.int a), .val (.int b), .val (.int d), .val (.int e), .val (.int f), .val (.int cI), .val (.int i1), .val (.int i2), .val (.int ix), .val (.int (1 : Int32)), .val (.ref q), .val (.int (0 : Int32)), .val (.int (0 : Int32)), .val (.int (0 : Int32)), .val (.int (0 : Int32)), .val (.int (1 : Int32)), .val (.int (0 : Int32)), .val (.int (0 : Int32)), .val (.int i1), .unset]) rfl ?_
      refine WP.iload at_172 rfl (pc' := 174) rfl ?_
      refine WP.iconst at_174 (z := (1 : Int32)) rfl (pc' := 175) rfl ?_
      refine WP.icmpLt at_175 (tgt := 185) (by decide) (pc' := 178) rfl (fun c175 => ?_) (fun c175 => ?_)
      ·
        refine WP.iload at_185 rfl (pc' := 187) rfl ?_
        refine WP.iconst at_187 (z := (2 : Int32)) rfl (pc' := 188) rfl ?_
        refine WP.icmpLt at_188 (tgt := 202) (by decide) (pc' := 191) rfl (fun c188 => ?_) (fun c188 => ?_)
        ·
          refine WP.iconst at_202 (z := (0 : Int32)) rfl (pc' := 203) rfl ?_
          refine WP.istore at_203 (pc' := 205) rfl (ls' := #[.val (.int a), .val (.int b), .val (.int d), .val (.int e), .val (.int f), .val (.int cI), .val (.int i1), .val (.int i2), .val (.int ix), .val (.int (1 : Int32)), .val (.ref q), .val (.int (0 : Int32)), .val (.int (0 : Int32)), .val (.int (0 : Int32)), .val (.int (0 : Int32)), .val (.int (1 : Int32)), .val (.int (0 : Int32)), .val (.int (0 : Int32)), .val (.int (0 : Int32)), .unset]) rfl ?_
          refine WP.aload at_205 rfl rfl (pc' := 207) rfl ?_
          refine WP.iload at_207 rfl (pc' := 209) rfl ?_
          refine WP.callV (a := q) (z := (⟨"com/example/singlet/singlet/propagation/IndexQueue", "add", "(I)Z"⟩ : MethodName)) (Cl := "com/example/singlet/singlet/propagation/IndexQueue") (y := (⟨"com/example/singlet/singlet/propagation/IndexQueue", "add", "(I)Z"⟩ : MethodName)) (By := B3) (as := [(.int ix)]) (rest := []) at_209 (w16 hw) (w17 hw) (w19 hw) (w18 hw) (w3 hw) (w20 hw) rfl rfl (by decide) hI.exa (add_new hw q ix c nx [] hI hnx (by omega) own_nmem0 (by show _ + 1 ≤ _; simp only [List.length_cons, List.length_nil]; omega) cI hcI) pd_1 rfl rfl rfl (by decide) (Nat.le_of_ble_eq_true rfl) (by decide) (by decide) (pc' := 212) rfl ?_
          rintro _ h7 ⟨rfl, hI⟩
          replace hI : IQ Z n0 _ q c [ix] := hI
          show WP _ _ _ _ _ _ _ _ _ _ [(.int (1 : Int32))]
          refine WP.istore at_212 (pc' := 214) rfl (ls' := #[.val (.int a), .val (.int b), .val (.int d), .val (.int e), .val (.int f), .val (.int cI), .val (.int i1), .val (.int i2), .val (.int ix), .val (.int (1 : Int32)), .val (.ref q), .val (.int (0 : Int32)), .val (.int (0 : Int32)), .val (.int (0 : Int32)), .val (.int (0 : Int32)), .val (.int (1 : Int32)), .val (.int (0 : Int32)), .val (.int (0 : Int32)), .val (.int (0 : Int32)), .val (.int (1 : Int32))]) rfl ?_
          refine WP.iload at_214 rfl (pc' := 216) rfl ?_
          refine WP.iload at_216 rfl (pc' := 218) rfl ?_
          refine WP.iload at_218 rfl (pc' := 220) rfl ?_
          refine WP.ifNe at_220 (tgt := 227) (by decide) (pc' := 223) rfl (fun c220 => ?_) (fun c220 => ?_)
          · exfalso; omega
          refine WP.iconst at_223 (z := (1 : Int32)) rfl (pc' := 224) rfl ?_
          refine WP.goto at_224 (pc' := 228) (by decide) ?_
          refine WP.icmpNe at_228 (tgt := 235) (by decide) (pc' := 231) rfl (fun c228 => ?_) (fun c228 => ?_)
          · exfalso; omega
          refine WP.iconst at_231 (z := (1 : Int32)) rfl (pc' := 232) rfl ?_
          refine WP.goto at_232 (pc' := 236) (by decide) ?_
          refine WP.iand at_236 (pc' := 237) rfl ?_
          rw [show (((1 : Int32) &&& (1 : Int32)) : Int32) = (1 : Int32) from by decide]
          refine WP.istore at_237 (pc' := 239) rfl (ls' := #[.val (.int a), .val (.int b), .val (.int d), .val (.int e), .val (.int f), .val (.int cI), .val (.int i1), .val (.int i2), .val (.int ix), .val (.int (1 : Int32)), .val (.ref q), .val (.int (0 : Int32)), .val (.int (0 : Int32)), .val (.int (0 : Int32)), .val (.int (0 : Int32)), .val (.int (1 : Int32)), .val (.int (0 : Int32)), .val (.int (0 : Int32)), .val (.int (0 : Int32)), .val (.int (1 : Int32))]) rfl ?_
          refine WP.iload at_239 rfl (pc' := 241) rfl ?_
          refine WP.ifNe at_241 (tgt := 279) (by decide) (pc' := 244) rfl (fun c241 => ?_) (fun c241 => ?_)
          · exfalso; omega
          refine WP.iload at_244 rfl (pc' := 246) rfl ?_
          refine WP.ifNe at_246 (tgt := 256) (by decide) (pc' := 249) rfl (fun c246 => ?_) (fun c246 => ?_)
          · exfalso; omega
          refine WP.iload at_249 rfl (pc' := 251) rfl ?_
          refine WP.istore at_251 (pc' := 253) rfl (ls' := #[.val (.int a), .val (.int b), .val (.int d), .val (.int e), .val (.int f), .val (.int cI), .val (.int i1), .val (.int i2), .val (.int ix), .val (.int (1 : Int32)), .val (.ref q), .val (.int ix), .val (.int (0 : Int32)), .val (.int (0 : Int32)), .val (.int (0 : Int32)), .val (.int (1 : Int32)), .val (.int (0 : Int32)), .val (.int (0 : Int32)), .val (.int (0 : Int32)), .val (.int (1 : Int32))]) rfl ?_
          refine WP.goto at_253 (pc' := 273) (by decide) ?_
          refine WP.iload at_273 rfl (pc' := 275) rfl ?_
          refine WP.iconst at_275 (z := (1 : Int32)) rfl (pc' := 276) rfl ?_
          refine WP.iadd at_276 (pc' := 277) rfl ?_
          rw [show (((0 : Int32) + (1 : Int32)) : Int32) = (1 : Int32) from by decide]
          refine WP.istore at_277 (pc' := 279) rfl (ls' := #[.val (.int a), .val (.int b), .val (.int d), .val (.int e), .val (.int f), .val (.int cI), .val (.int i1), .val (.int i2), .val (.int ix), .val (.int (1 : Int32)), .val (.ref q), .val (.int ix), .val (.int (0 : Int32)), .val (.int (0 : Int32)), .val (.int (1 : Int32)), .val (.int (1 : Int32)), .val (.int (0 : Int32)), .val (.int (0 : Int32)), .val (.int (0 : Int32)), .val (.int (1 : Int32))]) rfl ?_
          refine WP.iload at_279 rfl (pc' := 281) rfl ?_
          refine WP.aload at_281 rfl rfl (pc' := 283) rfl ?_
          refine WP.callV (a := q) (z := (⟨"com/example/singlet/singlet/propagation/IndexQueue", "size", "()I"⟩ : MethodName)) (Cl := "com/example/singlet/singlet/propagation/IndexQueue") (y := (⟨"com/example/singlet/singlet/propagation/IndexQueue", "size", "()I"⟩ : MethodName)) (By := B4) (as := []) (rest := [(.int (1 : Int32))]) at_283 (w25 hw) (w26 hw) (w28 hw) (w27 hw) (w3 hw) (w29 hw) rfl rfl (by decide) hI.exa (siz_met hw q c [ix] hI) pd_2 rfl rfl rfl (by decide) (Nat.le_of_ble_eq_true rfl) (by decide) (by decide) (pc' := 286) rfl ?_
          rintro _ h8 ⟨s, rfl, hs_, hI⟩
          obtain rfl : s = (1 : Int32) := own_e32 (by rw [hs_]; rfl)
          show WP _ _ _ _ _ _ _ _ _ _ [(.int (1 : Int32)), (.int (1 : Int32))]
          refine WP.iload at_286 rfl (pc' := 288) rfl ?_
          refine WP.icmpNe at_288 (tgt := 295) (by decide) (pc' := 291) rfl (fun c288 => ?_) (fun c288 => ?_)
          · exfalso; omega
          refine WP.iconst at_291 (z := (1 : Int32)) rfl (pc' := 292) rfl ?_
          refine WP.goto at_292 (pc' := 296) (by decide) ?_
          refine WP.iand at_296 (pc' := 297) rfl ?_
          rw [show (((1 : Int32) &&& (1 : Int32)) : Int32) = (1 : Int32) from by decide]
          refine WP.istore at_297 (pc' := 299) rfl (ls' := #[.val (.int a), .val (.int b), .val (.int d), .val (.int e), .val (.int f), .val (.int cI), .val (.int i1), .val (.int i2), .val (.int ix), .val (.int (1 : Int32)), .val (.ref q), .val (.int ix), .val (.int (0 : Int32)), .val (.int (0 : Int32)), .val (.int (1 : Int32)), .val (.int (1 : Int32)), .val (.int (0 : Int32)), .val (.int (0 : Int32)), .val (.int (0 : Int32)), .val (.int (1 : Int32))]) rfl ?_
          refine WP.iload at_299 rfl (pc' := 301) rfl ?_
          refine WP.aload at_301 rfl rfl (pc' := 303) rfl ?_
          refine WP.iload at_303 rfl (pc' := 305) rfl ?_
          refine WP.callV (a := q) (z := (⟨"com/example/singlet/singlet/propagation/IndexQueue", "contains", "(I)Z"⟩ : MethodName)) (Cl := "com/example/singlet/singlet/propagation/IndexQueue") (y := (⟨"com/example/singlet/singlet/propagation/IndexQueue", "contains", "(I)Z"⟩ : MethodName)) (By := B5) (as := [(.int ix)]) (rest := [(.int (1 : Int32))]) at_305 (w30 hw) (w31 hw) (w33 hw) (w32 hw) (w3 hw) (w34 hw) rfl rfl (by decide) hI.exa (con_met hw q ix c nx [ix] hI hnx (by omega) (own_mem0 (own_e32 (by omega)))) pd_1 rfl rfl rfl (by decide) (Nat.le_of_ble_eq_true rfl) (by decide) (by decide) (pc' := 308) rfl ?_
          rintro _ h9 ⟨rfl, hI⟩
          show WP _ _ _ _ _ _ _ _ _ _ [(.int (1 : Int32)), (.int (1 : Int32))]
          refine WP.iand at_308 (pc' := 309) rfl ?_
          rw [show (((1 : Int32) &&& (1 : Int32)) : Int32) = (1 : Int32) from by decide]
          refine WP.istore at_309 (pc' := 311) rfl (ls' := #[.val (.int a), .val (.int b), .val (.int d), .val (.int e), .val (.int f), .val (.int cI), .val (.int i1), .val (.int i2), .val (.int ix), .val (.int (1 : Int32)), .val (.ref q), .val (.int ix), .val (.int (0 : Int32)), .val (.int (0 : Int32)), .val (.int (1 : Int32)), .val (.int (1 : Int32)), .val (.int (0 : Int32)), .val (.int (0 : Int32)), .val (.int (0 : Int32)), .val (.int (1 : Int32))]) rfl ?_
          refine WP.iload at_311 rfl (pc' := 313) rfl ?_
          refine WP.iconst at_313 (z := (1 : Int32)) rfl (pc' := 314) rfl ?_
          refine WP.icmpLt at_314 (tgt := 337) (by decide) (pc' := 317) rfl (fun c314 => ?_) (fun c314 => ?_)
          · exfalso; omega
          refine WP.iload at_317 rfl (pc' := 319) rfl ?_
          refine WP.aload at_319 rfl rfl (pc' := 321) rfl ?_
          refine WP.callV (a := q) (z := (⟨"com/example/singlet/singlet/propagation/IndexQueue", "poll", "()I"⟩ : MethodName)) (Cl := "com/example/singlet/singlet/propagation/IndexQueue") (y := (⟨"com/example/singlet/singlet/propagation/IndexQueue", "poll", "()I"⟩ : MethodName)) (By := B6) (as := []) (rest := [(.int (1 : Int32))]) at_321 (w35 hw) (w36 hw) (w38 hw) (w37 hw) (w3 hw) (w39 hw) rfl rfl (by decide) hI.exa (pol_met hw q ix c nx [] hI hnx (by omega) own_nmem0 cI hcI) pd_2 rfl rfl rfl (by decide) (Nat.le_of_ble_eq_true rfl) (by decide) (by decide) (pc' := 324) rfl ?_
          rintro _ h10 ⟨rfl, hI⟩
          show WP _ _ _ _ _ _ _ _ _ _ [(.int ix), (.int (1 : Int32))]
          refine WP.iload at_324 rfl (pc' := 326) rfl ?_
          refine WP.icmpNe at_326 (tgt := 333) (by decide) (pc' := 329) rfl (fun c326 => ?_) (fun c326 => ?_)
          · exfalso; omega
          refine WP.iconst at_329 (z := (1 : Int32)) rfl (pc' := 330) rfl ?_
          refine WP.goto at_330 (pc' := 334) (by decide) ?_
          refine WP.iand at_334 (pc' := 335) rfl ?_
          rw [show (((1 : Int32) &&& (1 : Int32)) : Int32) = (1 : Int32) from by decide]
          refine WP.istore at_335 (pc' := 337) rfl (ls' := #[.val (.int a), .val (.int b), .val (.int d), .val (.int e), .val (.int f), .val (.int cI), .val (.int i1), .val (.int i2), .val (.int ix), .val (.int (1 : Int32)), .val (.ref q), .val (.int ix), .val (.int (0 : Int32)), .val (.int (0 : Int32)), .val (.int (1 : Int32)), .val (.int (1 : Int32)), .val (.int (0 : Int32)), .val (.int (0 : Int32)), .val (.int (0 : Int32)), .val (.int (1 : Int32))]) rfl ?_
          refine WP.iload at_337 rfl (pc' := 339) rfl ?_
          refine WP.iconst at_339 (z := (2 : Int32)) rfl (pc' := 340) rfl ?_
          refine WP.icmpLt at_340 (tgt := 363) (by decide) (pc' := 343) rfl (fun c340 => ?_) (fun c340 => ?_)
          ·
            refine WP.iload at_363 rfl (pc' := 365) rfl ?_
            refine WP.iconst at_365 (z := (3 : Int32)) rfl (pc' := 366) rfl ?_
            refine WP.icmpLt at_366 (tgt := 389) (by decide) (pc' := 369) rfl (fun c366 => ?_) (fun c366 => ?_)
            ·
              refine WP.iload at_389 rfl (pc' := 391) rfl ?_
              exact WP.retN at_391 (t := .boolean) rfl (by simp) (by decide) (by decide) own_q1
            exfalso; omega
          exfalso; omega
        exfalso; omega
      exfalso; omega
    exfalso; omega
  exfalso; omega
theorem law_d0a {l : Launch} {Z : State} {a0 : Array Value} (hw : HW Z a0) {n0 : Nat} {h : Heap} (a b d e f cI i1 i2 ix : Int32) (c n1 n2 nx : Nat) (hcI : cI.toInt = (c : Int)) (h0 : 0 < c) (h4 : c ≤ 4) (hn1 : i1.toInt = (n1 : Int)) (hn2 : i2.toInt = (n2 : Int)) (hnx : ix.toInt = (nx : Int)) (hl1 : n1 < c) (hl2 : n2 < c) (hlx : nx < c) (hs : i2.toInt ≠ i1.toInt) (hx : ix.toInt = i1.toInt) : WP l B0 Z n0 (fun v h' => v = some (.int 1)) h 0 0 48 #[.val (.int a), .val (.int b), .val (.int d), .val (.int e), .val (.int f), .val (.int cI), .val (.int i1), .val (.int i2), .val (.int ix), .val (.int (0 : Int32)), .unset, .unset, .unset, .unset, .unset, .unset, .unset, .unset, .unset, .unset] [] := by
  have k32_0 : (0 : Int32).toInt = 0 := by decide
  have k32_1 : (1 : Int32).toInt = 1 := by decide
  have k32_2 : (2 : Int32).toInt = 2 := by decide
  have k32_3 : (3 : Int32).toInt = 3 := by decide
  refine WP.newobj (lay := L_IQ) (vs := [.null, .null, (.int 0), (.int 0)]) at_48 (w1 hw) (w2 hw) (w3 hw) (lay_IQ hw) rfl (by decide) (by decide) (pc' := 51) rfl ?_
  intro q h1 eb_q g_q K2 O_q
  refine WP.dup at_51 rfl (pc' := 52) rfl ?_
  refine WP.iload at_52 rfl (pc' := 54) rfl ?_
  refine WP.callI (a := q) (y := (⟨"com/example/singlet/singlet/propagation/IndexQueue", "<init>", "(I)V"⟩ : MethodName)) (By := B1) (as := [(.int cI)]) (rest := [(.ref q)]) at_54 (w4 hw) (w5 hw) (w3 hw) (w6 hw) rfl rfl (by decide) (ini_met hw q cI c hcI (by omega) (by omega) g_q O_q) pd_0 rfl rfl rfl (by decide) (Nat.le_of_ble_eq_true rfl) (by decide) (by decide) (pc' := 57) rfl ?_
  rintro _ h3 ⟨rfl, hI⟩
  show WP _ _ _ _ _ _ _ _ _ _ [(.ref q)]
  refine WP.astore at_57 (pc' := 59) rfl rfl (ls' := #[.val (.int a), .val (.int b), .val (.int d), .val (.int e), .val (.int f), .val (.int cI), .val (.int i1), .val (.int i2), .val (.int ix), .val (.int (0 : Int32)), .val (.ref q), .unset, .unset, .unset, .unset, .unset, .unset, .unset, .unset, .unset]) rfl ?_
  refine WP.iload at_59 rfl (pc' := 61) rfl ?_
  refine WP.istore at_61 (pc' := 63) rfl (ls' := #[.val (.int a), .val (.int b), .val (.int d), .val (.int e), .val (.int f), .val (.int cI), .val (.int i1), .val (.int i2), .val (.int ix), .val (.int (0 : Int32)), .val (.ref q), .val (.int i1), .unset, .unset, .unset, .unset, .unset, .unset, .unset, .unset]) rfl ?_
  refine WP.iconst at_63 (z := (0 : Int32)) rfl (pc' := 64) rfl ?_
  refine WP.istore at_64 (pc' := 66) rfl (ls' := #[.val (.int a), .val (.int b), .val (.int d), .val (.int e), .val (.int f), .val (.int cI), .val (.int i1), .val (.int i2), .val (.int ix), .val (.int (0 : Int32)), .val (.ref q), .val (.int i1), .val (.int (0 : Int32)), .unset, .unset, .unset, .unset, .unset, .unset, .unset]) rfl ?_
  refine WP.iconst at_66 (z := (0 : Int32)) rfl (pc' := 67) rfl ?_
  refine WP.istore at_67 (pc' := 69) rfl (ls' := #[.val (.int a), .val (.int b), .val (.int d), .val (.int e), .val (.int f), .val (.int cI), .val (.int i1), .val (.int i2), .val (.int ix), .val (.int (0 : Int32)), .val (.ref q), .val (.int i1), .val (.int (0 : Int32)), .val (.int (0 : Int32)), .unset, .unset, .unset, .unset, .unset, .unset]) rfl ?_
  refine WP.iconst at_69 (z := (1 : Int32)) rfl (pc' := 70) rfl ?_
  refine WP.istore at_70 (pc' := 72) rfl (ls' := #[.val (.int a), .val (.int b), .val (.int d), .val (.int e), .val (.int f), .val (.int cI), .val (.int i1), .val (.int i2), .val (.int ix), .val (.int (0 : Int32)), .val (.ref q), .val (.int i1), .val (.int (0 : Int32)), .val (.int (0 : Int32)), .val (.int (1 : Int32)), .unset, .unset, .unset, .unset, .unset]) rfl ?_
  refine WP.aload at_72 rfl rfl (pc' := 74) rfl ?_
  refine WP.iload at_74 rfl (pc' := 76) rfl ?_
  refine WP.callV (a := q) (z := (⟨"com/example/singlet/singlet/propagation/IndexQueue", "add", "(I)Z"⟩ : MethodName)) (Cl := "com/example/singlet/singlet/propagation/IndexQueue") (y := (⟨"com/example/singlet/singlet/propagation/IndexQueue", "add", "(I)Z"⟩ : MethodName)) (By := B3) (as := [(.int i1)]) (rest := []) at_76 (w16 hw) (w17 hw) (w19 hw) (w18 hw) (w3 hw) (w20 hw) rfl rfl (by decide) hI.exa (add_new hw q i1 c n1 [] hI hn1 (by omega) own_nmem0 (by show _ + 1 ≤ _; simp only [List.length_cons, List.length_nil]; omega) cI hcI) pd_1 rfl rfl rfl (by decide) (Nat.le_of_ble_eq_true rfl) (by decide) (by decide) (pc' := 79) rfl ?_
  rintro _ h4 ⟨rfl, hI⟩
  replace hI : IQ Z n0 _ q c [i1] := hI
  show WP _ _ _ _ _ _ _ _ _ _ [(.int (1 : Int32))]
  refine WP.istore at_79 (pc' := 81) rfl (ls' := #[.val (.int a), .val (.int b), .val (.int d), .val (.int e), .val (.int f), .val (.int cI), .val (.int i1), .val (.int i2), .val (.int ix), .val (.int (0 : Int32)), .val (.ref q), .val (.int i1), .val (.int (0 : Int32)), .val (.int (0 : Int32)), .val (.int (1 : Int32)), .val (.int (1 : Int32)), .unset, .unset, .unset, .unset]) rfl ?_
  refine WP.aload at_81 rfl rfl (pc' := 83) rfl ?_
  refine WP.iload at_83 rfl (pc' := 85) rfl ?_
  refine WP.callV (a := q) (z := (⟨"com/example/singlet/singlet/propagation/IndexQueue", "add", "(I)Z"⟩ : MethodName)) (Cl := "com/example/singlet/singlet/propagation/IndexQueue") (y := (⟨"com/example/singlet/singlet/propagation/IndexQueue", "add", "(I)Z"⟩ : MethodName)) (By := B3) (as := [(.int i2)]) (rest := []) at_85 (w16 hw) (w17 hw) (w19 hw) (w18 hw) (w3 hw) (w20 hw) rfl rfl (by decide) hI.exa (add_new hw q i2 c n2 [i1] hI hn2 (by omega) (own_nmem (own_ne (by omega)) own_nmem0) (by show _ + 1 ≤ _; simp only [List.length_cons, List.length_nil]; omega) cI hcI) pd_1 rfl rfl rfl (by decide) (Nat.le_of_ble_eq_true rfl) (by decide) (by decide) (pc' := 88) rfl ?_
  rintro _ h5 ⟨rfl, hI⟩
  replace hI : IQ Z n0 _ q c [i1, i2] := hI
  show WP _ _ _ _ _ _ _ _ _ _ [(.int (1 : Int32))]
  refine WP.istore at_88 (pc' := 90) rfl (ls' := #[.val (.int a), .val (.int b), .val (.int d), .val (.int e), .val (.int f), .val (.int cI), .val (.int i1), .val (.int i2), .val (.int ix), .val (.int (0 : Int32)), .val (.ref q), .val (.int i1), .val (.int (0 : Int32)), .val (.int (0 : Int32)), .val (.int (1 : Int32)), .val (.int (1 : Int32)), .val (.int (1 : Int32)), .unset, .unset, .unset]) rfl ?_
  refine WP.iload at_90 rfl (pc' := 92) rfl ?_
  refine WP.iload at_92 rfl (pc' := 94) rfl ?_
  refine WP.icmpEq at_94 (tgt := 101) (by decide) (pc' := 97) rfl (fun c94 => ?_) (fun c94 => ?_)
  · exfalso; omega
  refine WP.iconst at_97 (z := (1 : Int32)) rfl (pc' := 98) rfl ?_
  refine WP.goto at_98 (pc' := 102) (by decide) ?_
  refine WP.istore at_102 (pc' := 104) rfl (ls' := #[.val (.int a), .val (.int b), .val (.int d), .val (.int e), .val (.int f), .val (.int cI), .val (.int i1), .val (.int i2), .val (.int ix), .val (.int (0 : Int32)), .val (.ref q), .val (.int i1), .val (.int (0 : Int32)), .val (.int (0 : Int32)), .val (.int (1 : Int32)), .val (.int (1 : Int32)), .val (.int (1 : Int32)), .val (.int (1 : Int32)), .unset, .unset]) rfl ?_
  refine WP.iload at_104 rfl (pc' := 106) rfl ?_
  refine WP.iload at_106 rfl (pc' := 108) rfl ?_
  refine WP.iload at_108 rfl (pc' := 110) rfl ?_
  refine WP.icmpNe at_110 (tgt := 117) (by decide) (pc' := 113) rfl (fun c110 => ?_) (fun c110 => ?_)
  · exfalso; omega
  refine WP.iconst at_113 (z := (1 : Int32)) rfl (pc' := 114) rfl ?_
  refine WP.goto at_114 (pc' := 118) (by decide) ?_
  refine WP.iand at_118 (pc' := 119) rfl ?_
  rw [show (((1 : Int32) &&& (1 : Int32)) : Int32) = (1 : Int32) from by decide]
  refine WP.istore at_119 (pc' := 121) rfl (ls' := #[.val (.int a), .val (.int b), .val (.int d), .val (.int e), .val (.int f), .val (.int cI), .val (.int i1), .val (.int i2), .val (.int ix), .val (.int (0 : Int32)), .val (.ref q), .val (.int i1), .val (.int (0 : Int32)), .val (.int (0 : Int32)), .val (.int (1 : Int32)), .val (.int (1 : Int32)), .val (.int (1 : Int32)), .val (.int (1 : Int32)), .unset, .unset]) rfl ?_
  refine WP.iload at_121 rfl (pc' := 123) rfl ?_
  refine WP.ifEq at_123 (tgt := 133) (by decide) (pc' := 126) rfl (fun c123 => ?_) (fun c123 => ?_)
  · exfalso; omega
  refine WP.iload at_126 rfl (pc' := 128) rfl ?_
  refine WP.istore at_128 (pc' := 130) rfl (ls' := #[.val (.int a), .val (.int b), .val (.int d), .val (.int e), .val (.int f), .val (.int cI), .val (.int i1), .val (.int i2), .val (.int ix), .val (.int (0 : Int32)), .val (.ref q), .val (.int i1), .val (.int i2), .val (.int (0 : Int32)), .val (.int (1 : Int32)), .val (.int (1 : Int32)), .val (.int (1 : Int32)), .val (.int (1 : Int32)), .unset, .unset]) rfl ?_
  refine WP.iconst at_130 (z := (2 : Int32)) rfl (pc' := 131) rfl ?_
  refine WP.istore at_131 (pc' := 133) rfl (ls' := #[.val (.int a), .val (.int b), .val (.int d), .val (.int e), .val (.int f), .val (.int cI), .val (.int i1), .val (.int i2), .val (.int ix), .val (.int (0 : Int32)), .val (.ref q), .val (.int i1), .val (.int i2), .val (.int (0 : Int32)), .val (.int (2 : Int32)), .val (.int (1 : Int32)), .val (.int (1 : Int32)), .val (.int (1 : Int32)), .unset, .unset]) rfl ?_
  refine WP.iload at_133 rfl (pc' := 135) rfl ?_
  refine WP.ifEq at_135 (tgt := 172) (by decide) (pc' := 138) rfl (fun c135 => ?_) (fun c135 => ?_)
  ·
    refine WP.iload at_172 rfl (pc' := 174) rfl ?_
    refine WP.iconst at_174 (z := (1 : Int32)) rfl (pc' := 175) rfl ?_
    refine WP.icmpLt at_175 (tgt := 185) (by decide) (pc' := 178) rfl (fun c175 => ?_) (fun c175 => ?_)
    · exfalso; omega
    refine WP.iload at_178 rfl (pc' := 180) rfl ?_
    refine WP.iload at_180 rfl (pc' := 182) rfl ?_
    refine WP.icmpEq at_182 (tgt := 198) (by decide) (pc' := 185) rfl (fun c182 => ?_) (fun c182 => ?_)
    ·
      refine WP.iconst at_198 (z := (1 : Int32)) rfl (pc' := 199) rfl ?_
      refine WP.goto at_199 (pc' := 203) (by decide) ?_
      refine WP.istore at_203 (pc' := 205) rfl (ls' := #[.val (.int a), .val (.int b), .val (.int d), .val (.int e), .val (.int f), .val (.int cI), .val (.int i1), .val (.int i2), .val (.int ix), .val (.int (0 : Int32)), .val (.ref q), .val (.int i1), .val (.int i2), .val (.int (0 : Int32)), .val (.int (2 : Int32)), .val (.int (1 : Int32)), .val (.int (1 : Int32)), .val (.int (1 : Int32)), .val (.int (1 : Int32)), .unset]) rfl ?_
      refine WP.aload at_205 rfl rfl (pc' := 207) rfl ?_
      refine WP.iload at_207 rfl (pc' := 209) rfl ?_
      refine WP.callV (a := q) (z := (⟨"com/example/singlet/singlet/propagation/IndexQueue", "add", "(I)Z"⟩ : MethodName)) (Cl := "com/example/singlet/singlet/propagation/IndexQueue") (y := (⟨"com/example/singlet/singlet/propagation/IndexQueue", "add", "(I)Z"⟩ : MethodName)) (By := B3) (as := [(.int ix)]) (rest := []) at_209 (w16 hw) (w17 hw) (w19 hw) (w18 hw) (w3 hw) (w20 hw) rfl rfl (by decide) hI.exa (add_in hw q ix c nx [i1, i2] hI hnx (by omega) (own_mem0 (own_e32 (by omega)))) pd_1 rfl rfl rfl (by decide) (Nat.le_of_ble_eq_true rfl) (by decide) (by decide) (pc' := 212) rfl ?_
      rintro _ h6 ⟨rfl, hI⟩
      show WP _ _ _ _ _ _ _ _ _ _ [(.int (0 : Int32))]
      refine WP.istore at_212 (pc' := 214) rfl (ls' := #[.val (.int a), .val (.int b), .val (.int d), .val (.int e), .val (.int f), .val (.int cI), .val (.int i1), .val (.int i2), .val (.int ix), .val (.int (0 : Int32)), .val (.ref q), .val (.int i1), .val (.int i2), .val (.int (0 : Int32)), .val (.int (2 : Int32)), .val (.int (1 : Int32)), .val (.int (1 : Int32)), .val (.int (1 : Int32)), .val (.int (1 : Int32)), .val (.int (0 : Int32))]) rfl ?_
      refine WP.iload at_214 rfl (pc' := 216) rfl ?_
      refine WP.iload at_216 rfl (pc' := 218) rfl ?_
      refine WP.iload at_218 rfl (pc' := 220) rfl ?_
      refine WP.ifNe at_220 (tgt := 227) (by decide) (pc' := 223) rfl (fun c220 => ?_) (fun c220 => ?_)
      ·
        refine WP.iconst at_227 (z := (0 : Int32)) rfl (pc' := 228) rfl ?_
        refine WP.icmpNe at_228 (tgt := 235) (by decide) (pc' := 231) rfl (fun c228 => ?_) (fun c228 => ?_)
        · exfalso; omega
        refine WP.iconst at_231 (z := (1 : Int32)) rfl (pc' := 232) rfl ?_
        refine WP.goto at_232 (pc' := 236) (by decide) ?_
        refine WP.iand at_236 (pc' := 237) rfl ?_
        rw [show (((1 : Int32) &&& (1 : Int32)) : Int32) = (1 : Int32) from by decide]
        refine WP.istore at_237 (pc' := 239) rfl (ls' := #[.val (.int a), .val (.int b), .val (.int d), .val (.int e), .val (.int f), .val (.int cI), .val (.int i1), .val (.int i2), .val (.int ix), .val (.int (0 : Int32)), .val (.ref q), .val (.int i1), .val (.int i2), .val (.int (0 : Int32)), .val (.int (2 : Int32)), .val (.int (1 : Int32)), .val (.int (1 : Int32)), .val (.int (1 : Int32)), .val (.int (1 : Int32)), .val (.int (0 : Int32))]) rfl ?_
        refine WP.iload at_239 rfl (pc' := 241) rfl ?_
        refine WP.ifNe at_241 (tgt := 279) (by decide) (pc' := 244) rfl (fun c241 => ?_) (fun c241 => ?_)
        ·
          refine WP.iload at_279 rfl (pc' := 281) rfl ?_
          refine WP.aload at_281 rfl rfl (pc' := 283) rfl ?_
          refine WP.callV (a := q) (z := (⟨"com/example/singlet/singlet/propagation/IndexQueue", "size", "()I"⟩ : MethodName)) (Cl := "com/example/singlet/singlet/propagation/IndexQueue") (y := (⟨"com/example/singlet/singlet/propagation/IndexQueue", "size", "()I"⟩ : MethodName)) (By := B4) (as := []) (rest := [(.int (1 : Int32))]) at_283 (w25 hw) (w26 hw) (w28 hw) (w27 hw) (w3 hw) (w29 hw) rfl rfl (by decide) hI.exa (siz_met hw q c [i1, i2] hI) pd_2 rfl rfl rfl (by decide) (Nat.le_of_ble_eq_true rfl) (by decide) (by decide) (pc' := 286) rfl ?_
          rintro _ h7 ⟨s, rfl, hs_, hI⟩
          obtain rfl : s = (2 : Int32) := own_e32 (by rw [hs_]; rfl)
          show WP _ _ _ _ _ _ _ _ _ _ [(.int (2 : Int32)), (.int (1 : Int32))]
          refine WP.iload at_286 rfl (pc' := 288) rfl ?_
          refine WP.icmpNe at_288 (tgt := 295) (by decide) (pc' := 291) rfl (fun c288 => ?_) (fun c288 => ?_)
          · exfalso; omega
          refine WP.iconst at_291 (z := (1 : Int32)) rfl (pc' := 292) rfl ?_
          refine WP.goto at_292 (pc' := 296) (by decide) ?_
          refine WP.iand at_296 (pc' := 297) rfl ?_
          rw [show (((1 : Int32) &&& (1 : Int32)) : Int32) = (1 : Int32) from by decide]
          refine WP.istore at_297 (pc' := 299) rfl (ls' := #[.val (.int a), .val (.int b), .val (.int d), .val (.int e), .val (.int f), .val (.int cI), .val (.int i1), .val (.int i2), .val (.int ix), .val (.int (0 : Int32)), .val (.ref q), .val (.int i1), .val (.int i2), .val (.int (0 : Int32)), .val (.int (2 : Int32)), .val (.int (1 : Int32)), .val (.int (1 : Int32)), .val (.int (1 : Int32)), .val (.int (1 : Int32)), .val (.int (0 : Int32))]) rfl ?_
          refine WP.iload at_299 rfl (pc' := 301) rfl ?_
          refine WP.aload at_301 rfl rfl (pc' := 303) rfl ?_
          refine WP.iload at_303 rfl (pc' := 305) rfl ?_
          refine WP.callV (a := q) (z := (⟨"com/example/singlet/singlet/propagation/IndexQueue", "contains", "(I)Z"⟩ : MethodName)) (Cl := "com/example/singlet/singlet/propagation/IndexQueue") (y := (⟨"com/example/singlet/singlet/propagation/IndexQueue", "contains", "(I)Z"⟩ : MethodName)) (By := B5) (as := [(.int ix)]) (rest := [(.int (1 : Int32))]) at_305 (w30 hw) (w31 hw) (w33 hw) (w32 hw) (w3 hw) (w34 hw) rfl rfl (by decide) hI.exa (con_met hw q ix c nx [i1, i2] hI hnx (by omega) (own_mem0 (own_e32 (by omega)))) pd_1 rfl rfl rfl (by decide) (Nat.le_of_ble_eq_true rfl) (by decide) (by decide) (pc' := 308) rfl ?_
          rintro _ h8 ⟨rfl, hI⟩
          show WP _ _ _ _ _ _ _ _ _ _ [(.int (1 : Int32)), (.int (1 : Int32))]
          refine WP.iand at_308 (pc' := 309) rfl ?_
          rw [show (((1 : Int32) &&& (1 : Int32)) : Int32) = (1 : Int32) from by decide]
          refine WP.istore at_309 (pc' := 311) rfl (ls' := #[.val (.int a), .val (.int b), .val (.int d), .val (.int e), .val (.int f), .val (.int cI), .val (.int i1), .val (.int i2), .val (.int ix), .val (.int (0 : Int32)), .val (.ref q), .val (.int i1), .val (.int i2), .val (.int (0 : Int32)), .val (.int (2 : Int32)), .val (.int (1 : Int32)), .val (.int (1 : Int32)), .val (.int (1 : Int32)), .val (.int (1 : Int32)), .val (.int (0 : Int32))]) rfl ?_
          refine WP.iload at_311 rfl (pc' := 313) rfl ?_
          refine WP.iconst at_313 (z := (1 : Int32)) rfl (pc' := 314) rfl ?_
          refine WP.icmpLt at_314 (tgt := 337) (by decide) (pc' := 317) rfl (fun c314 => ?_) (fun c314 => ?_)
          · exfalso; omega
          refine WP.iload at_317 rfl (pc' := 319) rfl ?_
          refine WP.aload at_319 rfl rfl (pc' := 321) rfl ?_
          refine WP.callV (a := q) (z := (⟨"com/example/singlet/singlet/propagation/IndexQueue", "poll", "()I"⟩ : MethodName)) (Cl := "com/example/singlet/singlet/propagation/IndexQueue") (y := (⟨"com/example/singlet/singlet/propagation/IndexQueue", "poll", "()I"⟩ : MethodName)) (By := B6) (as := []) (rest := [(.int (1 : Int32))]) at_321 (w35 hw) (w36 hw) (w38 hw) (w37 hw) (w3 hw) (w39 hw) rfl rfl (by decide) hI.exa (pol_met hw q i1 c n1 [i2] hI hn1 (by omega) (own_nmem (own_ne (by omega)) own_nmem0) cI hcI) pd_2 rfl rfl rfl (by decide) (Nat.le_of_ble_eq_true rfl) (by decide) (by decide) (pc' := 324) rfl ?_
          rintro _ h9 ⟨rfl, hI⟩
          show WP _ _ _ _ _ _ _ _ _ _ [(.int i1), (.int (1 : Int32))]
          refine WP.iload at_324 rfl (pc' := 326) rfl ?_
          refine WP.icmpNe at_326 (tgt := 333) (by decide) (pc' := 329) rfl (fun c326 => ?_) (fun c326 => ?_)
          · exfalso; omega
          refine WP.iconst at_329 (z := (1 : Int32)) rfl (pc' := 330) rfl ?_
          refine WP.goto at_330 (pc' := 334) (by decide) ?_
          refine WP.iand at_334 (pc' := 335) rfl ?_
          rw [show (((1 : Int32) &&& (1 : Int32)) : Int32) = (1 : Int32) from by decide]
          refine WP.istore at_335 (pc' := 337) rfl (ls' := #[.val (.int a), .val (.int b), .val (.int d), .val (.int e), .val (.int f), .val (.int cI), .val (.int i1), .val (.int i2), .val (.int ix), .val (.int (0 : Int32)), .val (.ref q), .val (.int i1), .val (.int i2), .val (.int (0 : Int32)), .val (.int (2 : Int32)), .val (.int (1 : Int32)), .val (.int (1 : Int32)), .val (.int (1 : Int32)), .val (.int (1 : Int32)), .val (.int (0 : Int32))]) rfl ?_
          refine WP.iload at_337 rfl (pc' := 339) rfl ?_
          refine WP.iconst at_339 (z := (2 : Int32)) rfl (pc' := 340) rfl ?_
          refine WP.icmpLt at_340 (tgt := 363) (by decide) (pc' := 343) rfl (fun c340 => ?_) (fun c340 => ?_)
          · exfalso; omega
          refine WP.iload at_343 rfl (pc' := 345) rfl ?_
          refine WP.aload at_345 rfl rfl (pc' := 347) rfl ?_
          refine WP.callV (a := q) (z := (⟨"com/example/singlet/singlet/propagation/IndexQueue", "poll", "()I"⟩ : MethodName)) (Cl := "com/example/singlet/singlet/propagation/IndexQueue") (y := (⟨"com/example/singlet/singlet/propagation/IndexQueue", "poll", "()I"⟩ : MethodName)) (By := B6) (as := []) (rest := [(.int (1 : Int32))]) at_347 (w35 hw) (w36 hw) (w38 hw) (w37 hw) (w3 hw) (w39 hw) rfl rfl (by decide) hI.exa (pol_met hw q i2 c n2 [] hI hn2 (by omega) own_nmem0 cI hcI) pd_2 rfl rfl rfl (by decide) (Nat.le_of_ble_eq_true rfl) (by decide) (by decide) (pc' := 350) rfl ?_
          rintro _ h10 ⟨rfl, hI⟩
          show WP _ _ _ _ _ _ _ _ _ _ [(.int i2), (.int (1 : Int32))]
          refine WP.iload at_350 rfl (pc' := 352) rfl ?_
          refine WP.icmpNe at_352 (tgt := 359) (by decide) (pc' := 355) rfl (fun c352 => ?_) (fun c352 => ?_)
          · exfalso; omega
          refine WP.iconst at_355 (z := (1 : Int32)) rfl (pc' := 356) rfl ?_
          refine WP.goto at_356 (pc' := 360) (by decide) ?_
          refine WP.iand at_360 (pc' := 361) rfl ?_
          rw [show (((1 : Int32) &&& (1 : Int32)) : Int32) = (1 : Int32) from by decide]
          refine WP.istore at_361 (pc' := 363) rfl (ls' := #[.val (.int a), .val (.int b), .val (.int d), .val (.int e), .val (.int f), .val (.int cI), .val (.int i1), .val (.int i2), .val (.int ix), .val (.int (0 : Int32)), .val (.ref q), .val (.int i1), .val (.int i2), .val (.int (0 : Int32)), .val (.int (2 : Int32)), .val (.int (1 : Int32)), .val (.int (1 : Int32)), .val (.int (1 : Int32)), .val (.int (1 : Int32)), .val (.int (0 : Int32))]) rfl ?_
          refine WP.iload at_363 rfl (pc' := 365) rfl ?_
          refine WP.iconst at_365 (z := (3 : Int32)) rfl (pc' := 366) rfl ?_
          refine WP.icmpLt at_366 (tgt := 389) (by decide) (pc' := 369) rfl (fun c366 => ?_) (fun c366 => ?_)
          ·
            refine WP.iload at_389 rfl (pc' := 391) rfl ?_
            exact WP.retN at_391 (t := .boolean) rfl (by simp) (by decide) (by decide) own_q1
          exfalso; omega
        exfalso; omega
      exfalso; omega
    exfalso; omega
  exfalso; omega
theorem law_d0b {l : Launch} {Z : State} {a0 : Array Value} (hw : HW Z a0) {n0 : Nat} {h : Heap} (a b d e f cI i1 i2 ix : Int32) (c n1 n2 nx : Nat) (hcI : cI.toInt = (c : Int)) (h0 : 0 < c) (h4 : c ≤ 4) (hn1 : i1.toInt = (n1 : Int)) (hn2 : i2.toInt = (n2 : Int)) (hnx : ix.toInt = (nx : Int)) (hl1 : n1 < c) (hl2 : n2 < c) (hlx : nx < c) (hs : i2.toInt ≠ i1.toInt) (hx : ix.toInt = i2.toInt) : WP l B0 Z n0 (fun v h' => v = some (.int 1)) h 0 0 48 #[.val (.int a), .val (.int b), .val (.int d), .val (.int e), .val (.int f), .val (.int cI), .val (.int i1), .val (.int i2), .val (.int ix), .val (.int (0 : Int32)), .unset, .unset, .unset, .unset, .unset, .unset, .unset, .unset, .unset, .unset] [] := by
  have k32_0 : (0 : Int32).toInt = 0 := by decide
  have k32_1 : (1 : Int32).toInt = 1 := by decide
  have k32_2 : (2 : Int32).toInt = 2 := by decide
  have k32_3 : (3 : Int32).toInt = 3 := by decide
  refine WP.newobj (lay := L_IQ) (vs := [.null, .null, (.int 0), (.int 0)]) at_48 (w1 hw) (w2 hw) (w3 hw) (lay_IQ hw) rfl (by decide) (by decide) (pc' := 51) rfl ?_
  intro q h1 eb_q g_q K2 O_q
  refine WP.dup at_51 rfl (pc' := 52) rfl ?_
  refine WP.iload at_52 rfl (pc' := 54) rfl ?_
  refine WP.callI (a := q) (y := (⟨"com/example/singlet/singlet/propagation/IndexQueue", "<init>", "(I)V"⟩ : MethodName)) (By := B1) (as := [(.int cI)]) (rest := [(.ref q)]) at_54 (w4 hw) (w5 hw) (w3 hw) (w6 hw) rfl rfl (by decide) (ini_met hw q cI c hcI (by omega) (by omega) g_q O_q) pd_0 rfl rfl rfl (by decide) (Nat.le_of_ble_eq_true rfl) (by decide) (by decide) (pc' := 57) rfl ?_
  rintro _ h3 ⟨rfl, hI⟩
  show WP _ _ _ _ _ _ _ _ _ _ [(.ref q)]
  refine WP.astore at_57 (pc' := 59) rfl rfl (ls' := #[.val (.int a), .val (.int b), .val (.int d), .val (.int e), .val (.int f), .val (.int cI), .val (.int i1), .val (.int i2), .val (.int ix), .val (.int (0 : Int32)), .val (.ref q), .unset, .unset, .unset, .unset, .unset, .unset, .unset, .unset, .unset]) rfl ?_
  refine WP.iload at_59 rfl (pc' := 61) rfl ?_
  refine WP.istore at_61 (pc' := 63) rfl (ls' := #[.val (.int a), .val (.int b), .val (.int d), .val (.int e), .val (.int f), .val (.int cI), .val (.int i1), .val (.int i2), .val (.int ix), .val (.int (0 : Int32)), .val (.ref q), .val (.int i1), .unset, .unset, .unset, .unset, .unset, .unset, .unset, .unset]) rfl ?_
  refine WP.iconst at_63 (z := (0 : Int32)) rfl (pc' := 64) rfl ?_
  refine WP.istore at_64 (pc' := 66) rfl (ls' := #[.val (.int a), .val (.int b), .val (.int d), .val (.int e), .val (.int f), .val (.int cI), .val (.int i1), .val (.int i2), .val (.int ix), .val (.int (0 : Int32)), .val (.ref q), .val (.int i1), .val (.int (0 : Int32)), .unset, .unset, .unset, .unset, .unset, .unset, .unset]) rfl ?_
  refine WP.iconst at_66 (z := (0 : Int32)) rfl (pc' := 67) rfl ?_
  refine WP.istore at_67 (pc' := 69) rfl (ls' := #[.val (.int a), .val (.int b), .val (.int d), .val (.int e), .val (.int f), .val (.int cI), .val (.int i1), .val (.int i2), .val (.int ix), .val (.int (0 : Int32)), .val (.ref q), .val (.int i1), .val (.int (0 : Int32)), .val (.int (0 : Int32)), .unset, .unset, .unset, .unset, .unset, .unset]) rfl ?_
  refine WP.iconst at_69 (z := (1 : Int32)) rfl (pc' := 70) rfl ?_
  refine WP.istore at_70 (pc' := 72) rfl (ls' := #[.val (.int a), .val (.int b), .val (.int d), .val (.int e), .val (.int f), .val (.int cI), .val (.int i1), .val (.int i2), .val (.int ix), .val (.int (0 : Int32)), .val (.ref q), .val (.int i1), .val (.int (0 : Int32)), .val (.int (0 : Int32)), .val (.int (1 : Int32)), .unset, .unset, .unset, .unset, .unset]) rfl ?_
  refine WP.aload at_72 rfl rfl (pc' := 74) rfl ?_
  refine WP.iload at_74 rfl (pc' := 76) rfl ?_
  refine WP.callV (a := q) (z := (⟨"com/example/singlet/singlet/propagation/IndexQueue", "add", "(I)Z"⟩ : MethodName)) (Cl := "com/example/singlet/singlet/propagation/IndexQueue") (y := (⟨"com/example/singlet/singlet/propagation/IndexQueue", "add", "(I)Z"⟩ : MethodName)) (By := B3) (as := [(.int i1)]) (rest := []) at_76 (w16 hw) (w17 hw) (w19 hw) (w18 hw) (w3 hw) (w20 hw) rfl rfl (by decide) hI.exa (add_new hw q i1 c n1 [] hI hn1 (by omega) own_nmem0 (by show _ + 1 ≤ _; simp only [List.length_cons, List.length_nil]; omega) cI hcI) pd_1 rfl rfl rfl (by decide) (Nat.le_of_ble_eq_true rfl) (by decide) (by decide) (pc' := 79) rfl ?_
  rintro _ h4 ⟨rfl, hI⟩
  replace hI : IQ Z n0 _ q c [i1] := hI
  show WP _ _ _ _ _ _ _ _ _ _ [(.int (1 : Int32))]
  refine WP.istore at_79 (pc' := 81) rfl (ls' := #[.val (.int a), .val (.int b), .val (.int d), .val (.int e), .val (.int f), .val (.int cI), .val (.int i1), .val (.int i2), .val (.int ix), .val (.int (0 : Int32)), .val (.ref q), .val (.int i1), .val (.int (0 : Int32)), .val (.int (0 : Int32)), .val (.int (1 : Int32)), .val (.int (1 : Int32)), .unset, .unset, .unset, .unset]) rfl ?_
  refine WP.aload at_81 rfl rfl (pc' := 83) rfl ?_
  refine WP.iload at_83 rfl (pc' := 85) rfl ?_
  refine WP.callV (a := q) (z := (⟨"com/example/singlet/singlet/propagation/IndexQueue", "add", "(I)Z"⟩ : MethodName)) (Cl := "com/example/singlet/singlet/propagation/IndexQueue") (y := (⟨"com/example/singlet/singlet/propagation/IndexQueue", "add", "(I)Z"⟩ : MethodName)) (By := B3) (as := [(.int i2)]) (rest := []) at_85 (w16 hw) (w17 hw) (w19 hw) (w18 hw) (w3 hw) (w20 hw) rfl rfl (by decide) hI.exa (add_new hw q i2 c n2 [i1] hI hn2 (by omega) (own_nmem (own_ne (by omega)) own_nmem0) (by show _ + 1 ≤ _; simp only [List.length_cons, List.length_nil]; omega) cI hcI) pd_1 rfl rfl rfl (by decide) (Nat.le_of_ble_eq_true rfl) (by decide) (by decide) (pc' := 88) rfl ?_
  rintro _ h5 ⟨rfl, hI⟩
  replace hI : IQ Z n0 _ q c [i1, i2] := hI
  show WP _ _ _ _ _ _ _ _ _ _ [(.int (1 : Int32))]
  refine WP.istore at_88 (pc' := 90) rfl (ls' := #[.val (.int a), .val (.int b), .val (.int d), .val (.int e), .val (.int f), .val (.int cI), .val (.int i1), .val (.int i2), .val (.int ix), .val (.int (0 : Int32)), .val (.ref q), .val (.int i1), .val (.int (0 : Int32)), .val (.int (0 : Int32)), .val (.int (1 : Int32)), .val (.int (1 : Int32)), .val (.int (1 : Int32)), .unset, .unset, .unset]) rfl ?_
  refine WP.iload at_90 rfl (pc' := 92) rfl ?_
  refine WP.iload at_92 rfl (pc' := 94) rfl ?_
  refine WP.icmpEq at_94 (tgt := 101) (by decide) (pc' := 97) rfl (fun c94 => ?_) (fun c94 => ?_)
  · exfalso; omega
  refine WP.iconst at_97 (z := (1 : Int32)) rfl (pc' := 98) rfl ?_
  refine WP.goto at_98 (pc' := 102) (by decide) ?_
  refine WP.istore at_102 (pc' := 104) rfl (ls' := #[.val (.int a), .val (.int b), .val (.int d), .val (.int e), .val (.int f), .val (.int cI), .val (.int i1), .val (.int i2), .val (.int ix), .val (.int (0 : Int32)), .val (.ref q), .val (.int i1), .val (.int (0 : Int32)), .val (.int (0 : Int32)), .val (.int (1 : Int32)), .val (.int (1 : Int32)), .val (.int (1 : Int32)), .val (.int (1 : Int32)), .unset, .unset]) rfl ?_
  refine WP.iload at_104 rfl (pc' := 106) rfl ?_
  refine WP.iload at_106 rfl (pc' := 108) rfl ?_
  refine WP.iload at_108 rfl (pc' := 110) rfl ?_
  refine WP.icmpNe at_110 (tgt := 117) (by decide) (pc' := 113) rfl (fun c110 => ?_) (fun c110 => ?_)
  · exfalso; omega
  refine WP.iconst at_113 (z := (1 : Int32)) rfl (pc' := 114) rfl ?_
  refine WP.goto at_114 (pc' := 118) (by decide) ?_
  refine WP.iand at_118 (pc' := 119) rfl ?_
  rw [show (((1 : Int32) &&& (1 : Int32)) : Int32) = (1 : Int32) from by decide]
  refine WP.istore at_119 (pc' := 121) rfl (ls' := #[.val (.int a), .val (.int b), .val (.int d), .val (.int e), .val (.int f), .val (.int cI), .val (.int i1), .val (.int i2), .val (.int ix), .val (.int (0 : Int32)), .val (.ref q), .val (.int i1), .val (.int (0 : Int32)), .val (.int (0 : Int32)), .val (.int (1 : Int32)), .val (.int (1 : Int32)), .val (.int (1 : Int32)), .val (.int (1 : Int32)), .unset, .unset]) rfl ?_
  refine WP.iload at_121 rfl (pc' := 123) rfl ?_
  refine WP.ifEq at_123 (tgt := 133) (by decide) (pc' := 126) rfl (fun c123 => ?_) (fun c123 => ?_)
  · exfalso; omega
  refine WP.iload at_126 rfl (pc' := 128) rfl ?_
  refine WP.istore at_128 (pc' := 130) rfl (ls' := #[.val (.int a), .val (.int b), .val (.int d), .val (.int e), .val (.int f), .val (.int cI), .val (.int i1), .val (.int i2), .val (.int ix), .val (.int (0 : Int32)), .val (.ref q), .val (.int i1), .val (.int i2), .val (.int (0 : Int32)), .val (.int (1 : Int32)), .val (.int (1 : Int32)), .val (.int (1 : Int32)), .val (.int (1 : Int32)), .unset, .unset]) rfl ?_
  refine WP.iconst at_130 (z := (2 : Int32)) rfl (pc' := 131) rfl ?_
  refine WP.istore at_131 (pc' := 133) rfl (ls' := #[.val (.int a), .val (.int b), .val (.int d), .val (.int e), .val (.int f), .val (.int cI), .val (.int i1), .val (.int i2), .val (.int ix), .val (.int (0 : Int32)), .val (.ref q), .val (.int i1), .val (.int i2), .val (.int (0 : Int32)), .val (.int (2 : Int32)), .val (.int (1 : Int32)), .val (.int (1 : Int32)), .val (.int (1 : Int32)), .unset, .unset]) rfl ?_
  refine WP.iload at_133 rfl (pc' := 135) rfl ?_
  refine WP.ifEq at_135 (tgt := 172) (by decide) (pc' := 138) rfl (fun c135 => ?_) (fun c135 => ?_)
  ·
    refine WP.iload at_172 rfl (pc' := 174) rfl ?_
    refine WP.iconst at_174 (z := (1 : Int32)) rfl (pc' := 175) rfl ?_
    refine WP.icmpLt at_175 (tgt := 185) (by decide) (pc' := 178) rfl (fun c175 => ?_) (fun c175 => ?_)
    · exfalso; omega
    refine WP.iload at_178 rfl (pc' := 180) rfl ?_
    refine WP.iload at_180 rfl (pc' := 182) rfl ?_
    refine WP.icmpEq at_182 (tgt := 198) (by decide) (pc' := 185) rfl (fun c182 => ?_) (fun c182 => ?_)
    · exfalso; omega
    refine WP.iload at_185 rfl (pc' := 187) rfl ?_
    refine WP.iconst at_187 (z := (2 : Int32)) rfl (pc' := 188) rfl ?_
    refine WP.icmpLt at_188 (tgt := 202) (by decide) (pc' := 191) rfl (fun c188 => ?_) (fun c188 => ?_)
    · exfalso; omega
    refine WP.iload at_191 rfl (pc' := 193) rfl ?_
    refine WP.iload at_193 rfl (pc' := 195) rfl ?_
    refine WP.icmpNe at_195 (tgt := 202) (by decide) (pc' := 198) rfl (fun c195 => ?_) (fun c195 => ?_)
    · exfalso; omega
    refine WP.iconst at_198 (z := (1 : Int32)) rfl (pc' := 199) rfl ?_
    refine WP.goto at_199 (pc' := 203) (by decide) ?_
    refine WP.istore at_203 (pc' := 205) rfl (ls' := #[.val (.int a), .val (.int b), .val (.int d), .val (.int e), .val (.int f), .val (.int cI), .val (.int i1), .val (.int i2), .val (.int ix), .val (.int (0 : Int32)), .val (.ref q), .val (.int i1), .val (.int i2), .val (.int (0 : Int32)), .val (.int (2 : Int32)), .val (.int (1 : Int32)), .val (.int (1 : Int32)), .val (.int (1 : Int32)), .val (.int (1 : Int32)), .unset]) rfl ?_
    refine WP.aload at_205 rfl rfl (pc' := 207) rfl ?_
    refine WP.iload at_207 rfl (pc' := 209) rfl ?_
    refine WP.callV (a := q) (z := (⟨"com/example/singlet/singlet/propagation/IndexQueue", "add", "(I)Z"⟩ : MethodName)) (Cl := "com/example/singlet/singlet/propagation/IndexQueue") (y := (⟨"com/example/singlet/singlet/propagation/IndexQueue", "add", "(I)Z"⟩ : MethodName)) (By := B3) (as := [(.int ix)]) (rest := []) at_209 (w16 hw) (w17 hw) (w19 hw) (w18 hw) (w3 hw) (w20 hw) rfl rfl (by decide) hI.exa (add_in hw q ix c nx [i1, i2] hI hnx (by omega) (own_mem1 (own_e32 (by omega)))) pd_1 rfl rfl rfl (by decide) (Nat.le_of_ble_eq_true rfl) (by decide) (by decide) (pc' := 212) rfl ?_
    rintro _ h6 ⟨rfl, hI⟩
    show WP _ _ _ _ _ _ _ _ _ _ [(.int (0 : Int32))]
    refine WP.istore at_212 (pc' := 214) rfl (ls' := #[.val (.int a), .val (.int b), .val (.int d), .val (.int e), .val (.int f), .val (.int cI), .val (.int i1), .val (.int i2), .val (.int ix), .val (.int (0 : Int32)), .val (.ref q), .val (.int i1), .val (.int i2), .val (.int (0 : Int32)), .val (.int (2 : Int32)), .val (.int (1 : Int32)), .val (.int (1 : Int32)), .val (.int (1 : Int32)), .val (.int (1 : Int32)), .val (.int (0 : Int32))]) rfl ?_
    refine WP.iload at_214 rfl (pc' := 216) rfl ?_
    refine WP.iload at_216 rfl (pc' := 218) rfl ?_
    refine WP.iload at_218 rfl (pc' := 220) rfl ?_
    refine WP.ifNe at_220 (tgt := 227) (by decide) (pc' := 223) rfl (fun c220 => ?_) (fun c220 => ?_)
    ·
      refine WP.iconst at_227 (z := (0 : Int32)) rfl (pc' := 228) rfl ?_
      refine WP.icmpNe at_228 (tgt := 235) (by decide) (pc' := 231) rfl (fun c228 => ?_) (fun c228 => ?_)
      · exfalso; omega
      refine WP.iconst at_231 (z := (1 : Int32)) rfl (pc' := 232) rfl ?_
      refine WP.goto at_232 (pc' := 236) (by decide) ?_
      refine WP.iand at_236 (pc' := 237) rfl ?_
      rw [show (((1 : Int32) &&& (1 : Int32)) : Int32) = (1 : Int32) from by decide]
      refine WP.istore at_237 (pc' := 239) rfl (ls' := #[.val (.int a), .val (.int b), .val (.int d), .val (.int e), .val (.int f), .val (.int cI), .val (.int i1), .val (.int i2), .val (.int ix), .val (.int (0 : Int32)), .val (.ref q), .val (.int i1), .val (.int i2), .val (.int (0 : Int32)), .val (.int (2 : Int32)), .val (.int (1 : Int32)), .val (.int (1 : Int32)), .val (.int (1 : Int32)), .val (.int (1 : Int32)), .val (.int (0 : Int32))]) rfl ?_
      refine WP.iload at_239 rfl (pc' := 241) rfl ?_
      refine WP.ifNe at_241 (tgt := 279) (by decide) (pc' := 244) rfl (fun c241 => ?_) (fun c241 => ?_)
      ·
        refine WP.iload at_279 rfl (pc' := 281) rfl ?_
        refine WP.aload at_281 rfl rfl (pc' := 283) rfl ?_
        refine WP.callV (a := q) (z := (⟨"com/example/singlet/singlet/propagation/IndexQueue", "size", "()I"⟩ : MethodName)) (Cl := "com/example/singlet/singlet/propagation/IndexQueue") (y := (⟨"com/example/singlet/singlet/propagation/IndexQueue", "size", "()I"⟩ : MethodName)) (By := B4) (as := []) (rest := [(.int (1 : Int32))]) at_283 (w25 hw) (w26 hw) (w28 hw) (w27 hw) (w3 hw) (w29 hw) rfl rfl (by decide) hI.exa (siz_met hw q c [i1, i2] hI) pd_2 rfl rfl rfl (by decide) (Nat.le_of_ble_eq_true rfl) (by decide) (by decide) (pc' := 286) rfl ?_
        rintro _ h7 ⟨s, rfl, hs_, hI⟩
        obtain rfl : s = (2 : Int32) := own_e32 (by rw [hs_]; rfl)
        show WP _ _ _ _ _ _ _ _ _ _ [(.int (2 : Int32)), (.int (1 : Int32))]
        refine WP.iload at_286 rfl (pc' := 288) rfl ?_
        refine WP.icmpNe at_288 (tgt := 295) (by decide) (pc' := 291) rfl (fun c288 => ?_) (fun c288 => ?_)
        · exfalso; omega
        refine WP.iconst at_291 (z := (1 : Int32)) rfl (pc' := 292) rfl ?_
        refine WP.goto at_292 (pc' := 296) (by decide) ?_
        refine WP.iand at_296 (pc' := 297) rfl ?_
        rw [show (((1 : Int32) &&& (1 : Int32)) : Int32) = (1 : Int32) from by decide]
        refine WP.istore at_297 (pc' := 299) rfl (ls' := #[.val (.int a), .val (.int b), .val (.int d), .val (.int e), .val (.int f), .val (.int cI), .val (.int i1), .val (.int i2), .val (.int ix), .val (.int (0 : Int32)), .val (.ref q), .val (.int i1), .val (.int i2), .val (.int (0 : Int32)), .val (.int (2 : Int32)), .val (.int (1 : Int32)), .val (.int (1 : Int32)), .val (.int (1 : Int32)), .val (.int (1 : Int32)), .val (.int (0 : Int32))]) rfl ?_
        refine WP.iload at_299 rfl (pc' := 301) rfl ?_
        refine WP.aload at_301 rfl rfl (pc' := 303) rfl ?_
        refine WP.iload at_303 rfl (pc' := 305) rfl ?_
        refine WP.callV (a := q) (z := (⟨"com/example/singlet/singlet/propagation/IndexQueue", "contains", "(I)Z"⟩ : MethodName)) (Cl := "com/example/singlet/singlet/propagation/IndexQueue") (y := (⟨"com/example/singlet/singlet/propagation/IndexQueue", "contains", "(I)Z"⟩ : MethodName)) (By := B5) (as := [(.int ix)]) (rest := [(.int (1 : Int32))]) at_305 (w30 hw) (w31 hw) (w33 hw) (w32 hw) (w3 hw) (w34 hw) rfl rfl (by decide) hI.exa (con_met hw q ix c nx [i1, i2] hI hnx (by omega) (own_mem1 (own_e32 (by omega)))) pd_1 rfl rfl rfl (by decide) (Nat.le_of_ble_eq_true rfl) (by decide) (by decide) (pc' := 308) rfl ?_
        rintro _ h8 ⟨rfl, hI⟩
        show WP _ _ _ _ _ _ _ _ _ _ [(.int (1 : Int32)), (.int (1 : Int32))]
        refine WP.iand at_308 (pc' := 309) rfl ?_
        rw [show (((1 : Int32) &&& (1 : Int32)) : Int32) = (1 : Int32) from by decide]
        refine WP.istore at_309 (pc' := 311) rfl (ls' := #[.val (.int a), .val (.int b), .val (.int d), .val (.int e), .val (.int f), .val (.int cI), .val (.int i1), .val (.int i2), .val (.int ix), .val (.int (0 : Int32)), .val (.ref q), .val (.int i1), .val (.int i2), .val (.int (0 : Int32)), .val (.int (2 : Int32)), .val (.int (1 : Int32)), .val (.int (1 : Int32)), .val (.int (1 : Int32)), .val (.int (1 : Int32)), .val (.int (0 : Int32))]) rfl ?_
        refine WP.iload at_311 rfl (pc' := 313) rfl ?_
        refine WP.iconst at_313 (z := (1 : Int32)) rfl (pc' := 314) rfl ?_
        refine WP.icmpLt at_314 (tgt := 337) (by decide) (pc' := 317) rfl (fun c314 => ?_) (fun c314 => ?_)
        · exfalso; omega
        refine WP.iload at_317 rfl (pc' := 319) rfl ?_
        refine WP.aload at_319 rfl rfl (pc' := 321) rfl ?_
        refine WP.callV (a := q) (z := (⟨"com/example/singlet/singlet/propagation/IndexQueue", "poll", "()I"⟩ : MethodName)) (Cl := "com/example/singlet/singlet/propagation/IndexQueue") (y := (⟨"com/example/singlet/singlet/propagation/IndexQueue", "poll", "()I"⟩ : MethodName)) (By := B6) (as := []) (rest := [(.int (1 : Int32))]) at_321 (w35 hw) (w36 hw) (w38 hw) (w37 hw) (w3 hw) (w39 hw) rfl rfl (by decide) hI.exa (pol_met hw q i1 c n1 [i2] hI hn1 (by omega) (own_nmem (own_ne (by omega)) own_nmem0) cI hcI) pd_2 rfl rfl rfl (by decide) (Nat.le_of_ble_eq_true rfl) (by decide) (by decide) (pc' := 324) rfl ?_
        rintro _ h9 ⟨rfl, hI⟩
        show WP _ _ _ _ _ _ _ _ _ _ [(.int i1), (.int (1 : Int32))]
        refine WP.iload at_324 rfl (pc' := 326) rfl ?_
        refine WP.icmpNe at_326 (tgt := 333) (by decide) (pc' := 329) rfl (fun c326 => ?_) (fun c326 => ?_)
        · exfalso; omega
        refine WP.iconst at_329 (z := (1 : Int32)) rfl (pc' := 330) rfl ?_
        refine WP.goto at_330 (pc' := 334) (by decide) ?_
        refine WP.iand at_334 (pc' := 335) rfl ?_
        rw [show (((1 : Int32) &&& (1 : Int32)) : Int32) = (1 : Int32) from by decide]
        refine WP.istore at_335 (pc' := 337) rfl (ls' := #[.val (.int a), .val (.int b), .val (.int d), .val (.int e), .val (.int f), .val (.int cI), .val (.int i1), .val (.int i2), .val (.int ix), .val (.int (0 : Int32)), .val (.ref q), .val (.int i1), .val (.int i2), .val (.int (0 : Int32)), .val (.int (2 : Int32)), .val (.int (1 : Int32)), .val (.int (1 : Int32)), .val (.int (1 : Int32)), .val (.int (1 : Int32)), .val (.int (0 : Int32))]) rfl ?_
        refine WP.iload at_337 rfl (pc' := 339) rfl ?_
        refine WP.iconst at_339 (z := (2 : Int32)) rfl (pc' := 340) rfl ?_
        refine WP.icmpLt at_340 (tgt := 363) (by decide) (pc' := 343) rfl (fun c340 => ?_) (fun c340 => ?_)
        · exfalso; omega
        refine WP.iload at_343 rfl (pc' := 345) rfl ?_
        refine WP.aload at_345 rfl rfl (pc' := 347) rfl ?_
        refine WP.callV (a := q) (z := (⟨"com/example/singlet/singlet/propagation/IndexQueue", "poll", "()I"⟩ : MethodName)) (Cl := "com/example/singlet/singlet/propagation/IndexQueue") (y := (⟨"com/example/singlet/singlet/propagation/IndexQueue", "poll", "()I"⟩ : MethodName)) (By := B6) (as := []) (rest := [(.int (1 : Int32))]) at_347 (w35 hw) (w36 hw) (w38 hw) (w37 hw) (w3 hw) (w39 hw) rfl rfl (by decide) hI.exa (pol_met hw q i2 c n2 [] hI hn2 (by omega) own_nmem0 cI hcI) pd_2 rfl rfl rfl (by decide) (Nat.le_of_ble_eq_true rfl) (by decide) (by decide) (pc' := 350) rfl ?_
        rintro _ h10 ⟨rfl, hI⟩
        show WP _ _ _ _ _ _ _ _ _ _ [(.int i2), (.int (1 : Int32))]
        refine WP.iload at_350 rfl (pc' := 352) rfl ?_
        refine WP.icmpNe at_352 (tgt := 359) (by decide) (pc' := 355) rfl (fun c352 => ?_) (fun c352 => ?_)
        · exfalso; omega
        refine WP.iconst at_355 (z := (1 : Int32)) rfl (pc' := 356) rfl ?_
        refine WP.goto at_356 (pc' := 360) (by decide) ?_
        refine WP.iand at_360 (pc' := 361) rfl ?_
        rw [show (((1 : Int32) &&& (1 : Int32)) : Int32) = (1 : Int32) from by decide]
        refine WP.istore at_361 (pc' := 363) rfl (ls' := #[.val (.int a), .val (.int b), .val (.int d), .val (.int e), .val (.int f), .val (.int cI), .val (.int i1), .val (.int i2), .val (.int ix), .val (.int (0 : Int32)), .val (.ref q), .val (.int i1), .val (.int i2), .val (.int (0 : Int32)), .val (.int (2 : Int32)), .val (.int (1 : Int32)), .val (.int (1 : Int32)), .val (.int (1 : Int32)), .val (.int (1 : Int32)), .val (.int (0 : Int32))]) rfl ?_
        refine WP.iload at_363 rfl (pc' := 365) rfl ?_
        refine WP.iconst at_365 (z := (3 : Int32)) rfl (pc' := 366) rfl ?_
        refine WP.icmpLt at_366 (tgt := 389) (by decide) (pc' := 369) rfl (fun c366 => ?_) (fun c366 => ?_)
        ·
          refine WP.iload at_389 rfl (pc' := 391) rfl ?_
          exact WP.retN at_391 (t := .boolean) rfl (by simp) (by decide) (by decide) own_q1
        exfalso; omega
      exfalso; omega
    exfalso; omega
  exfalso; omega
theorem law_d0n {l : Launch} {Z : State} {a0 : Array Value} (hw : HW Z a0) {n0 : Nat} {h : Heap} (a b d e f cI i1 i2 ix : Int32) (c n1 n2 nx : Nat) (hcI : cI.toInt = (c : Int)) (h0 : 0 < c) (h4 : c ≤ 4) (hn1 : i1.toInt = (n1 : Int)) (hn2 : i2.toInt = (n2 : Int)) (hnx : ix.toInt = (nx : Int)) (hl1 : n1 < c) (hl2 : n2 < c) (hlx : nx < c) (hs : i2.toInt ≠ i1.toInt) (hx : ix.toInt ≠ i1.toInt ∧ ix.toInt ≠ i2.toInt) : WP l B0 Z n0 (fun v h' => v = some (.int 1)) h 0 0 48 #[.val (.int a), .val (.int b), .val (.int d), .val (.int e), .val (.int f), .val (.int cI), .val (.int i1), .val (.int i2), .val (.int ix), .val (.int (0 : Int32)), .unset, .unset, .unset, .unset, .unset, .unset, .unset, .unset, .unset, .unset] [] := by
  have k32_0 : (0 : Int32).toInt = 0 := by decide
  have k32_1 : (1 : Int32).toInt = 1 := by decide
  have k32_2 : (2 : Int32).toInt = 2 := by decide
  have k32_3 : (3 : Int32).toInt = 3 := by decide
  refine WP.newobj (lay := L_IQ) (vs := [.null, .null, (.int 0), (.int 0)]) at_48 (w1 hw) (w2 hw) (w3 hw) (lay_IQ hw) rfl (by decide) (by decide) (pc' := 51) rfl ?_
  intro q h1 eb_q g_q K2 O_q
  refine WP.dup at_51 rfl (pc' := 52) rfl ?_
  refine WP.iload at_52 rfl (pc' := 54) rfl ?_
  refine WP.callI (a := q) (y := (⟨"com/example/singlet/singlet/propagation/IndexQueue", "<init>", "(I)V"⟩ : MethodName)) (By := B1) (as := [(.int cI)]) (rest := [(.ref q)]) at_54 (w4 hw) (w5 hw) (w3 hw) (w6 hw) rfl rfl (by decide) (ini_met hw q cI c hcI (by omega) (by omega) g_q O_q) pd_0 rfl rfl rfl (by decide) (Nat.le_of_ble_eq_true rfl) (by decide) (by decide) (pc' := 57) rfl ?_
  rintro _ h3 ⟨rfl, hI⟩
  show WP _ _ _ _ _ _ _ _ _ _ [(.ref q)]
  refine WP.astore at_57 (pc' := 59) rfl rfl (ls' := #[.val (.int a), .val (.int b), .val (.int d), .val (.int e), .val (.int f), .val (.int cI), .val (.int i1), .val (.int i2), .val (.int ix), .val (.int (0 : Int32)), .val (.ref q), .unset, .unset, .unset, .unset, .unset, .unset, .unset, .unset, .unset]) rfl ?_
  refine WP.iload at_59 rfl (pc' := 61) rfl ?_
  refine WP.istore at_61 (pc' := 63) rfl (ls' := #[.val (.int a), .val (.int b), .val (.int d), .val (.int e), .val (.int f), .val (.int cI), .val (.int i1), .val (.int i2), .val (.int ix), .val (.int (0 : Int32)), .val (.ref q), .val (.int i1), .unset, .unset, .unset, .unset, .unset, .unset, .unset, .unset]) rfl ?_
  refine WP.iconst at_63 (z := (0 : Int32)) rfl (pc' := 64) rfl ?_
  refine WP.istore at_64 (pc' := 66) rfl (ls' := #[.val (.int a), .val (.int b), .val (.int d), .val (.int e), .val (.int f), .val (.int cI), .val (.int i1), .val (.int i2), .val (.int ix), .val (.int (0 : Int32)), .val (.ref q), .val (.int i1), .val (.int (0 : Int32)), .unset, .unset, .unset, .unset, .unset, .unset, .unset]) rfl ?_
  refine WP.iconst at_66 (z := (0 : Int32)) rfl (pc' := 67) rfl ?_
  refine WP.istore at_67 (pc' := 69) rfl (ls' := #[.val (.int a), .val (.int b), .val (.int d), .val (.int e), .val (.int f), .val (.int cI), .val (.int i1), .val (.int i2), .val (.int ix), .val (.int (0 : Int32)), .val (.ref q), .val (.int i1), .val (.int (0 : Int32)), .val (.int (0 : Int32)), .unset, .unset, .unset, .unset, .unset, .unset]) rfl ?_
  refine WP.iconst at_69 (z := (1 : Int32)) rfl (pc' := 70) rfl ?_
  refine WP.istore at_70 (pc' := 72) rfl (ls' := #[.val (.int a), .val (.int b), .val (.int d), .val (.int e), .val (.int f), .val (.int cI), .val (.int i1), .val (.int i2), .val (.int ix), .val (.int (0 : Int32)), .val (.ref q), .val (.int i1), .val (.int (0 : Int32)), .val (.int (0 : Int32)), .val (.int (1 : Int32)), .unset, .unset, .unset, .unset, .unset]) rfl ?_
  refine WP.aload at_72 rfl rfl (pc' := 74) rfl ?_
  refine WP.iload at_74 rfl (pc' := 76) rfl ?_
  refine WP.callV (a := q) (z := (⟨"com/example/singlet/singlet/propagation/IndexQueue", "add", "(I)Z"⟩ : MethodName)) (Cl := "com/example/singlet/singlet/propagation/IndexQueue") (y := (⟨"com/example/singlet/singlet/propagation/IndexQueue", "add", "(I)Z"⟩ : MethodName)) (By := B3) (as := [(.int i1)]) (rest := []) at_76 (w16 hw) (w17 hw) (w19 hw) (w18 hw) (w3 hw) (w20 hw) rfl rfl (by decide) hI.exa (add_new hw q i1 c n1 [] hI hn1 (by omega) own_nmem0 (by show _ + 1 ≤ _; simp only [List.length_cons, List.length_nil]; omega) cI hcI) pd_1 rfl rfl rfl (by decide) (Nat.le_of_ble_eq_true rfl) (by decide) (by decide) (pc' := 79) rfl ?_
  rintro _ h4 ⟨rfl, hI⟩
  replace hI : IQ Z n0 _ q c [i1] := hI
  show WP _ _ _ _ _ _ _ _ _ _ [(.int (1 : Int32))]
  refine WP.istore at_79 (pc' := 81) rfl (ls' := #[.val (.int a), .val (.int b), .val (.int d), .val (.int e), .val (.int f), .val (.int cI), .val (.int i1), .val (.int i2), .val (.int ix), .val (.int (0 : Int32)), .val (.ref q), .val (.int i1), .val (.int (0 : Int32)), .val (.int (0 : Int32)), .val (.int (1 : Int32)), .val (.int (1 : Int32)), .unset, .unset, .unset, .unset]) rfl ?_
  refine WP.aload at_81 rfl rfl (pc' := 83) rfl ?_
  refine WP.iload at_83 rfl (pc' := 85) rfl ?_
  refine WP.callV (a := q) (z := (⟨"com/example/singlet/singlet/propagation/IndexQueue", "add", "(I)Z"⟩ : MethodName)) (Cl := "com/example/singlet/singlet/propagation/IndexQueue") (y := (⟨"com/example/singlet/singlet/propagation/IndexQueue", "add", "(I)Z"⟩ : MethodName)) (By := B3) (as := [(.int i2)]) (rest := []) at_85 (w16 hw) (w17 hw) (w19 hw) (w18 hw) (w3 hw) (w20 hw) rfl rfl (by decide) hI.exa (add_new hw q i2 c n2 [i1] hI hn2 (by omega) (own_nmem (own_ne (by omega)) own_nmem0) (by show _ + 1 ≤ _; simp only [List.length_cons, List.length_nil]; omega) cI hcI) pd_1 rfl rfl rfl (by decide) (Nat.le_of_ble_eq_true rfl) (by decide) (by decide) (pc' := 88) rfl ?_
  rintro _ h5 ⟨rfl, hI⟩
  replace hI : IQ Z n0 _ q c [i1, i2] := hI
  show WP _ _ _ _ _ _ _ _ _ _ [(.int (1 : Int32))]
  refine WP.istore at_88 (pc' := 90) rfl (ls' := #[.val (.int a), .val (.int b), .val (.int d), .val (.int e), .val (.int f), .val (.int cI), .val (.int i1), .val (.int i2), .val (.int ix), .val (.int (0 : Int32)), .val (.ref q), .val (.int i1), .val (.int (0 : Int32)), .val (.int (0 : Int32)), .val (.int (1 : Int32)), .val (.int (1 : Int32)), .val (.int (1 : Int32)), .unset, .unset, .unset]) rfl ?_
  refine WP.iload at_90 rfl (pc' := 92) rfl ?_
  refine WP.iload at_92 rfl (pc' := 94) rfl ?_
  refine WP.icmpEq at_94 (tgt := 101) (by decide) (pc' := 97) rfl (fun c94 => ?_) (fun c94 => ?_)
  · exfalso; omega
  refine WP.iconst at_97 (z := (1 : Int32)) rfl (pc' := 98) rfl ?_
  refine WP.goto at_98 (pc' := 102) (by decide) ?_
  refine WP.istore at_102 (pc' := 104) rfl (ls' := #[.val (.int a), .val (.int b), .val (.int d), .val (.int e), .val (.int f), .val (.int cI), .val (.int i1), .val (.int i2), .val (.int ix), .val (.int (0 : Int32)), .val (.ref q), .val (.int i1), .val (.int (0 : Int32)), .val (.int (0 : Int32)), .val (.int (1 : Int32)), .val (.int (1 : Int32)), .val (.int (1 : Int32)), .val (.int (1 : Int32)), .unset, .unset]) rfl ?_
  refine WP.iload at_104 rfl (pc' := 106) rfl ?_
  refine WP.iload at_106 rfl (pc' := 108) rfl ?_
  refine WP.iload at_108 rfl (pc' := 110) rfl ?_
  refine WP.icmpNe at_110 (tgt := 117) (by decide) (pc' := 113) rfl (fun c110 => ?_) (fun c110 => ?_)
  · exfalso; omega
  refine WP.iconst at_113 (z := (1 : Int32)) rfl (pc' := 114) rfl ?_
  refine WP.goto at_114 (pc' := 118) (by decide) ?_
  refine WP.iand at_118 (pc' := 119) rfl ?_
  rw [show (((1 : Int32) &&& (1 : Int32)) : Int32) = (1 : Int32) from by decide]
  refine WP.istore at_119 (pc' := 121) rfl (ls' := #[.val (.int a), .val (.int b), .val (.int d), .val (.int e), .val (.int f), .val (.int cI), .val (.int i1), .val (.int i2), .val (.int ix), .val (.int (0 : Int32)), .val (.ref q), .val (.int i1), .val (.int (0 : Int32)), .val (.int (0 : Int32)), .val (.int (1 : Int32)), .val (.int (1 : Int32)), .val (.int (1 : Int32)), .val (.int (1 : Int32)), .unset, .unset]) rfl ?_
  refine WP.iload at_121 rfl (pc' := 123) rfl ?_
  refine WP.ifEq at_123 (tgt := 133) (by decide) (pc' := 126) rfl (fun c123 => ?_) (fun c123 => ?_)
  · exfalso; omega
  refine WP.iload at_126 rfl (pc' := 128) rfl ?_
  refine WP.istore at_128 (pc' := 130) rfl (ls' := #[.val (.int a), .val (.int b), .val (.int d), .val (.int e), .val (.int f), .val (.int cI), .val (.int i1), .val (.int i2), .val (.int ix), .val (.int (0 : Int32)), .val (.ref q), .val (.int i1), .val (.int i2), .val (.int (0 : Int32)), .val (.int (1 : Int32)), .val (.int (1 : Int32)), .val (.int (1 : Int32)), .val (.int (1 : Int32)), .unset, .unset]) rfl ?_
  refine WP.iconst at_130 (z := (2 : Int32)) rfl (pc' := 131) rfl ?_
  refine WP.istore at_131 (pc' := 133) rfl (ls' := #[.val (.int a), .val (.int b), .val (.int d), .val (.int e), .val (.int f), .val (.int cI), .val (.int i1), .val (.int i2), .val (.int ix), .val (.int (0 : Int32)), .val (.ref q), .val (.int i1), .val (.int i2), .val (.int (0 : Int32)), .val (.int (2 : Int32)), .val (.int (1 : Int32)), .val (.int (1 : Int32)), .val (.int (1 : Int32)), .unset, .unset]) rfl ?_
  refine WP.iload at_133 rfl (pc' := 135) rfl ?_
  refine WP.ifEq at_135 (tgt := 172) (by decide) (pc' := 138) rfl (fun c135 => ?_) (fun c135 => ?_)
  ·
    refine WP.iload at_172 rfl (pc' := 174) rfl ?_
    refine WP.iconst at_174 (z := (1 : Int32)) rfl (pc' := 175) rfl ?_
    refine WP.icmpLt at_175 (tgt := 185) (by decide) (pc' := 178) rfl (fun c175 => ?_) (fun c175 => ?_)
    · exfalso; omega
    refine WP.iload at_178 rfl (pc' := 180) rfl ?_
    refine WP.iload at_180 rfl (pc' := 182) rfl ?_
    refine WP.icmpEq at_182 (tgt := 198) (by decide) (pc' := 185) rfl (fun c182 => ?_) (fun c182 => ?_)
    · exfalso; omega
    refine WP.iload at_185 rfl (pc' := 187) rfl ?_
    refine WP.iconst at_187 (z := (2 : Int32)) rfl (pc' := 188) rfl ?_
    refine WP.icmpLt at_188 (tgt := 202) (by decide) (pc' := 191) rfl (fun c188 => ?_) (fun c188 => ?_)
    · exfalso; omega
    refine WP.iload at_191 rfl (pc' := 193) rfl ?_
    refine WP.iload at_193 rfl (pc' := 195) rfl ?_
    refine WP.icmpNe at_195 (tgt := 202) (by decide) (pc' := 198) rfl (fun c195 => ?_) (fun c195 => ?_)
    ·
      refine WP.iconst at_202 (z := (0 : Int32)) rfl (pc' := 203) rfl ?_
      refine WP.istore at_203 (pc' := 205) rfl (ls' := #[.val (.int a), .val (.int b), .val (.int d), .val (.int e), .val (.int f), .val (.int cI), .val (.int i1), .val (.int i2), .val (.int ix), .val (.int (0 : Int32)), .val (.ref q), .val (.int i1), .val (.int i2), .val (.int (0 : Int32)), .val (.int (2 : Int32)), .val (.int (1 : Int32)), .val (.int (1 : Int32)), .val (.int (1 : Int32)), .val (.int (0 : Int32)), .unset]) rfl ?_
      refine WP.aload at_205 rfl rfl (pc' := 207) rfl ?_
      refine WP.iload at_207 rfl (pc' := 209) rfl ?_
      refine WP.callV (a := q) (z := (⟨"com/example/singlet/singlet/propagation/IndexQueue", "add", "(I)Z"⟩ : MethodName)) (Cl := "com/example/singlet/singlet/propagation/IndexQueue") (y := (⟨"com/example/singlet/singlet/propagation/IndexQueue", "add", "(I)Z"⟩ : MethodName)) (By := B3) (as := [(.int ix)]) (rest := []) at_209 (w16 hw) (w17 hw) (w19 hw) (w18 hw) (w3 hw) (w20 hw) rfl rfl (by decide) hI.exa (add_new hw q ix c nx [i1, i2] hI hnx (by omega) (own_nmem (own_ne (by omega)) (own_nmem (own_ne (by omega)) own_nmem0)) (by show _ + 1 ≤ _; simp only [List.length_cons, List.length_nil]; omega) cI hcI) pd_1 rfl rfl rfl (by decide) (Nat.le_of_ble_eq_true rfl) (by decide) (by decide) (pc' := 212) rfl ?_
      rintro _ h6 ⟨rfl, hI⟩
      replace hI : IQ Z n0 _ q c [i1, i2, ix] := hI
      show WP _ _ _ _ _ _ _ _ _ _ [(.int (1 : Int32))]
      refine WP.istore at_212 (pc' := 214) rfl (ls' := #[.val (.int a), .val (.int b), .val (.int d), .val (.int e), .val (.int f), .val (.int cI), .val (.int i1), .val (.int i2), .val (.int ix), .val (.int (0 : Int32)), .val (.ref q), .val (.int i1), .val (.int i2), .val (.int (0 : Int32)), .val (.int (2 : Int32)), .val (.int (1 : Int32)), .val (.int (1 : Int32)), .val (.int (1 : Int32)), .val (.int (0 : Int32)), .val (.int (1 : Int32))]) rfl ?_
      refine WP.iload at_214 rfl (pc' := 216) rfl ?_
      refine WP.iload at_216 rfl (pc' := 218) rfl ?_
      refine WP.iload at_218 rfl (pc' := 220) rfl ?_
      refine WP.ifNe at_220 (tgt := 227) (by decide) (pc' := 223) rfl (fun c220 => ?_) (fun c220 => ?_)
      · exfalso; omega
      refine WP.iconst at_223 (z := (1 : Int32)) rfl (pc' := 224) rfl ?_
      refine WP.goto at_224 (pc' := 228) (by decide) ?_
      refine WP.icmpNe at_228 (tgt := 235) (by decide) (pc' := 231) rfl (fun c228 => ?_) (fun c228 => ?_)
      · exfalso; omega
      refine WP.iconst at_231 (z := (1 : Int32)) rfl (pc' := 232) rfl ?_
      refine WP.goto at_232 (pc' := 236) (by decide) ?_
      refine WP.iand at_236 (pc' := 237) rfl ?_
      rw [show (((1 : Int32) &&& (1 : Int32)) : Int32) = (1 : Int32) from by decide]
      refine WP.istore at_237 (pc' := 239) rfl (ls' := #[.val (.int a), .val (.int b), .val (.int d), .val (.int e), .val (.int f), .val (.int cI), .val (.int i1), .val (.int i2), .val (.int ix), .val (.int (0 : Int32)), .val (.ref q), .val (.int i1), .val (.int i2), .val (.int (0 : Int32)), .val (.int (2 : Int32)), .val (.int (1 : Int32)), .val (.int (1 : Int32)), .val (.int (1 : Int32)), .val (.int (0 : Int32)), .val (.int (1 : Int32))]) rfl ?_
      refine WP.iload at_239 rfl (pc' := 241) rfl ?_
      refine WP.ifNe at_241 (tgt := 279) (by decide) (pc' := 244) rfl (fun c241 => ?_) (fun c241 => ?_)
      · exfalso; omega
      refine WP.iload at_244 rfl (pc' := 246) rfl ?_
      refine WP.ifNe at_246 (tgt := 256) (by decide) (pc' := 249) rfl (fun c246 => ?_) (fun c246 => ?_)
      ·
        refine WP.iload at_256 rfl (pc' := 258) rfl ?_
        refine WP.iconst at_258 (z := (1 : Int32)) rfl (pc' := 259) rfl ?_
        refine WP.icmpNe at_259 (tgt := 269) (by decide) (pc' := 262) rfl (fun c259 => ?_) (fun c259 => ?_)
        ·
          refine WP.iload at_269 rfl (pc' := 271) rfl ?_
          refine WP.istore at_271 (pc' := 273) rfl (ls' := #[.val (.int a), .val (.int b), .val (.int d), .val (.int e), .val (.int f), .val (.int cI), .val (.int i1), .val (.int i2), .val (.int ix), .val (.int (0 : Int32)), .val (.ref q), .val (.int i1), .val (.int i2), .val (.int ix), .val (.int (2 : Int32)), .val (.int (1 : Int32)), .val (.int (1 : Int32)), .val (.int (1 : Int32)), .val (.int (0 : Int32)), .val (.int (1 : Int32))]) rfl ?_
          refine WP.iload at_273 rfl (pc' := 275) rfl ?_
          refine WP.iconst at_275 (z := (1 : Int32)) rfl (pc' := 276) rfl ?_
          refine WP.iadd at_276 (pc' := 277) rfl ?_
          rw [show (((2 : Int32) + (1 : Int32)) : Int32) = (3 : Int32) from by decide]
          refine WP.istore at_277 (pc' := 279) rfl (ls' := #[.val (.int a), .val (.int b), .val (.int d), .val (.int e), .val (.int f), .val (.int cI), .val (.int i1), .val (.int i2), .val (.int ix), .val (.int (0 : Int32)), .val (.ref q), .val (.int i1), .val (.int i2), .val (.int ix), .val (.int (3 : Int32)), .val (.int (1 : Int32)), .val (.int (1 : Int32)), .val (.int (1 : Int32)), .val (.int (0 : Int32)), .val (.int (1 : Int32))]) rfl ?_
          refine WP.iload at_279 rfl (pc' := 281) rfl ?_
          refine WP.aload at_281 rfl rfl (pc' := 283) rfl ?_
          refine WP.callV (a := q) (z := (⟨"com/example/singlet/singlet/propagation/IndexQueue", "size", "()I"⟩ : MethodName)) (Cl := "com/example/singlet/singlet/propagation/IndexQueue") (y := (⟨"com/example/singlet/singlet/propagation/IndexQueue", "size", "()I"⟩ : MethodName)) (By := B4) (as := []) (rest := [(.int (1 : Int32))]) at_283 (w25 hw) (w26 hw) (w28 hw) (w27 hw) (w3 hw) (w29 hw) rfl rfl (by decide) hI.exa (siz_met hw q c [i1, i2, ix] hI) pd_2 rfl rfl rfl (by decide) (Nat.le_of_ble_eq_true rfl) (by decide) (by decide) (pc' := 286) rfl ?_
          rintro _ h7 ⟨s, rfl, hs_, hI⟩
          obtain rfl : s = (3 : Int32) := own_e32 (by rw [hs_]; rfl)
          show WP _ _ _ _ _ _ _ _ _ _ [(.int (3 : Int32)), (.int (1 : Int32))]
          refine WP.iload at_286 rfl (pc' := 288) rfl ?_
          refine WP.icmpNe at_288 (tgt := 295) (by decide) (pc' := 291) rfl (fun c288 => ?_) (fun c288 => ?_)
          · exfalso; omega
          refine WP.iconst at_291 (z := (1 : Int32)) rfl (pc' := 292) rfl ?_
          refine WP.goto at_292 (pc' := 296) (by decide) ?_
          refine WP.iand at_296 (pc' := 297) rfl ?_
          rw [show (((1 : Int32) &&& (1 : Int32)) : Int32) = (1 : Int32) from by decide]
          refine WP.istore at_297 (pc' := 299) rfl (ls' := #[.val (.int a), .val (.int b), .val (.int d), .val (.int e), .val (.int f), .val (.int cI), .val (.int i1), .val (.int i2), .val (.int ix), .val (.int (0 : Int32)), .val (.ref q), .val (.int i1), .val (.int i2), .val (.int ix), .val (.int (3 : Int32)), .val (.int (1 : Int32)), .val (.int (1 : Int32)), .val (.int (1 : Int32)), .val (.int (0 : Int32)), .val (.int (1 : Int32))]) rfl ?_
          refine WP.iload at_299 rfl (pc' := 301) rfl ?_
          refine WP.aload at_301 rfl rfl (pc' := 303) rfl ?_
          refine WP.iload at_303 rfl (pc' := 305) rfl ?_
          refine WP.callV (a := q) (z := (⟨"com/example/singlet/singlet/propagation/IndexQueue", "contains", "(I)Z"⟩ : MethodName)) (Cl := "com/example/singlet/singlet/propagation/IndexQueue") (y := (⟨"com/example/singlet/singlet/propagation/IndexQueue", "contains", "(I)Z"⟩ : MethodName)) (By := B5) (as := [(.int ix)]) (rest := [(.int (1 : Int32))]) at_305 (w30 hw) (w31 hw) (w33 hw) (w32 hw) (w3 hw) (w34 hw) rfl rfl (by decide) hI.exa (con_met hw q ix c nx [i1, i2, ix] hI hnx (by omega) (own_mem2 (own_e32 (by omega)))) pd_1 rfl rfl rfl (by decide) (Nat.le_of_ble_eq_true rfl) (by decide) (by decide) (pc' := 308) rfl ?_
          rintro _ h8 ⟨rfl, hI⟩
          show WP _ _ _ _ _ _ _ _ _ _ [(.int (1 : Int32)), (.int (1 : Int32))]
          refine WP.iand at_308 (pc' := 309) rfl ?_
          rw [show (((1 : Int32) &&& (1 : Int32)) : Int32) = (1 : Int32) from by decide]
          refine WP.istore at_309 (pc' := 311) rfl (ls' := #[.val (.int a), .val (.int b), .val (.int d), .val (.int e), .val (.int f), .val (.int cI), .val (.int i1), .val (.int i2), .val (.int ix), .val (.int (0 : Int32)), .val (.ref q), .val (.int i1), .val (.int i2), .val (.int ix), .val (.int (3 : Int32)), .val (.int (1 : Int32)), .val (.int (1 : Int32)), .val (.int (1 : Int32)), .val (.int (0 : Int32)), .val (.int (1 : Int32))]) rfl ?_
          refine WP.iload at_311 rfl (pc' := 313) rfl ?_
          refine WP.iconst at_313 (z := (1 : Int32)) rfl (pc' := 314) rfl ?_
          refine WP.icmpLt at_314 (tgt := 337) (by decide) (pc' := 317) rfl (fun c314 => ?_) (fun c314 => ?_)
          · exfalso; omega
          refine WP.iload at_317 rfl (pc' := 319) rfl ?_
          refine WP.aload at_319 rfl rfl (pc' := 321) rfl ?_
          refine WP.callV (a := q) (z := (⟨"com/example/singlet/singlet/propagation/IndexQueue", "poll", "()I"⟩ : MethodName)) (Cl := "com/example/singlet/singlet/propagation/IndexQueue") (y := (⟨"com/example/singlet/singlet/propagation/IndexQueue", "poll", "()I"⟩ : MethodName)) (By := B6) (as := []) (rest := [(.int (1 : Int32))]) at_321 (w35 hw) (w36 hw) (w38 hw) (w37 hw) (w3 hw) (w39 hw) rfl rfl (by decide) hI.exa (pol_met hw q i1 c n1 [i2, ix] hI hn1 (by omega) (own_nmem (own_ne (by omega)) (own_nmem (own_ne (by omega)) own_nmem0)) cI hcI) pd_2 rfl rfl rfl (by decide) (Nat.le_of_ble_eq_true rfl) (by decide) (by decide) (pc' := 324) rfl ?_
          rintro _ h9 ⟨rfl, hI⟩
          show WP _ _ _ _ _ _ _ _ _ _ [(.int i1), (.int (1 : Int32))]
          refine WP.iload at_324 rfl (pc' := 326) rfl ?_
          refine WP.icmpNe at_326 (tgt := 333) (by decide) (pc' := 329) rfl (fun c326 => ?_) (fun c326 => ?_)
          · exfalso; omega
          refine WP.iconst at_329 (z := (1 : Int32)) rfl (pc' := 330) rfl ?_
          refine WP.goto at_330 (pc' := 334) (by decide) ?_
          refine WP.iand at_334 (pc' := 335) rfl ?_
          rw [show (((1 : Int32) &&& (1 : Int32)) : Int32) = (1 : Int32) from by decide]
          refine WP.istore at_335 (pc' := 337) rfl (ls' := #[.val (.int a), .val (.int b), .val (.int d), .val (.int e), .val (.int f), .val (.int cI), .val (.int i1), .val (.int i2), .val (.int ix), .val (.int (0 : Int32)), .val (.ref q), .val (.int i1), .val (.int i2), .val (.int ix), .val (.int (3 : Int32)), .val (.int (1 : Int32)), .val (.int (1 : Int32)), .val (.int (1 : Int32)), .val (.int (0 : Int32)), .val (.int (1 : Int32))]) rfl ?_
          refine WP.iload at_337 rfl (pc' := 339) rfl ?_
          refine WP.iconst at_339 (z := (2 : Int32)) rfl (pc' := 340) rfl ?_
          refine WP.icmpLt at_340 (tgt := 363) (by decide) (pc' := 343) rfl (fun c340 => ?_) (fun c340 => ?_)
          · exfalso; omega
          refine WP.iload at_343 rfl (pc' := 345) rfl ?_
          refine WP.aload at_345 rfl rfl (pc' := 347) rfl ?_
          refine WP.callV (a := q) (z := (⟨"com/example/singlet/singlet/propagation/IndexQueue", "poll", "()I"⟩ : MethodName)) (Cl := "com/example/singlet/singlet/propagation/IndexQueue") (y := (⟨"com/example/singlet/singlet/propagation/IndexQueue", "poll", "()I"⟩ : MethodName)) (By := B6) (as := []) (rest := [(.int (1 : Int32))]) at_347 (w35 hw) (w36 hw) (w38 hw) (w37 hw) (w3 hw) (w39 hw) rfl rfl (by decide) hI.exa (pol_met hw q i2 c n2 [ix] hI hn2 (by omega) (own_nmem (own_ne (by omega)) own_nmem0) cI hcI) pd_2 rfl rfl rfl (by decide) (Nat.le_of_ble_eq_true rfl) (by decide) (by decide) (pc' := 350) rfl ?_
          rintro _ h10 ⟨rfl, hI⟩
          show WP _ _ _ _ _ _ _ _ _ _ [(.int i2), (.int (1 : Int32))]
          refine WP.iload at_350 rfl (pc' := 352) rfl ?_
          refine WP.icmpNe at_352 (tgt := 359) (by decide) (pc' := 355) rfl (fun c352 => ?_) (fun c352 => ?_)
          · exfalso; omega
          refine WP.iconst at_355 (z := (1 : Int32)) rfl (pc' := 356) rfl ?_
          refine WP.goto at_356 (pc' := 360) (by decide) ?_
          refine WP.iand at_360 (pc' := 361) rfl ?_
          rw [show (((1 : Int32) &&& (1 : Int32)) : Int32) = (1 : Int32) from by decide]
          refine WP.istore at_361 (pc' := 363) rfl (ls' := #[.val (.int a), .val (.int b), .val (.int d), .val (.int e), .val (.int f), .val (.int cI), .val (.int i1), .val (.int i2), .val (.int ix), .val (.int (0 : Int32)), .val (.ref q), .val (.int i1), .val (.int i2), .val (.int ix), .val (.int (3 : Int32)), .val (.int (1 : Int32)), .val (.int (1 : Int32)), .val (.int (1 : Int32)), .val (.int (0 : Int32)), .val (.int (1 : Int32))]) rfl ?_
          refine WP.iload at_363 rfl (pc' := 365) rfl ?_
          refine WP.iconst at_365 (z := (3 : Int32)) rfl (pc' := 366) rfl ?_
          refine WP.icmpLt at_366 (tgt := 389) (by decide) (pc' := 369) rfl (fun c366 => ?_) (fun c366 => ?_)
          · exfalso; omega
          refine WP.iload at_369 rfl (pc' := 371) rfl ?_
          refine WP.aload at_371 rfl rfl (pc' := 373) rfl ?_
          refine WP.callV (a := q) (z := (⟨"com/example/singlet/singlet/propagation/IndexQueue", "poll", "()I"⟩ : MethodName)) (Cl := "com/example/singlet/singlet/propagation/IndexQueue") (y := (⟨"com/example/singlet/singlet/propagation/IndexQueue", "poll", "()I"⟩ : MethodName)) (By := B6) (as := []) (rest := [(.int (1 : Int32))]) at_373 (w35 hw) (w36 hw) (w38 hw) (w37 hw) (w3 hw) (w39 hw) rfl rfl (by decide) hI.exa (pol_met hw q ix c nx [] hI hnx (by omega) own_nmem0 cI hcI) pd_2 rfl rfl rfl (by decide) (Nat.le_of_ble_eq_true rfl) (by decide) (by decide) (pc' := 376) rfl ?_
          rintro _ h11 ⟨rfl, hI⟩
          show WP _ _ _ _ _ _ _ _ _ _ [(.int ix), (.int (1 : Int32))]
          refine WP.iload at_376 rfl (pc' := 378) rfl ?_
          refine WP.icmpNe at_378 (tgt := 385) (by decide) (pc' := 381) rfl (fun c378 => ?_) (fun c378 => ?_)
          · exfalso; omega
          refine WP.iconst at_381 (z := (1 : Int32)) rfl (pc' := 382) rfl ?_
          refine WP.goto at_382 (pc' := 386) (by decide) ?_
          refine WP.iand at_386 (pc' := 387) rfl ?_
          rw [show (((1 : Int32) &&& (1 : Int32)) : Int32) = (1 : Int32) from by decide]
          refine WP.istore at_387 (pc' := 389) rfl (ls' := #[.val (.int a), .val (.int b), .val (.int d), .val (.int e), .val (.int f), .val (.int cI), .val (.int i1), .val (.int i2), .val (.int ix), .val (.int (0 : Int32)), .val (.ref q), .val (.int i1), .val (.int i2), .val (.int ix), .val (.int (3 : Int32)), .val (.int (1 : Int32)), .val (.int (1 : Int32)), .val (.int (1 : Int32)), .val (.int (0 : Int32)), .val (.int (1 : Int32))]) rfl ?_
          refine WP.iload at_389 rfl (pc' := 391) rfl ?_
          exact WP.retN at_391 (t := .boolean) rfl (by simp) (by decide) (by decide) own_q1
        exfalso; omega
      exfalso; omega
    exfalso; omega
  exfalso; omega
theorem law_d1b {l : Launch} {Z : State} {a0 : Array Value} (hw : HW Z a0) {n0 : Nat} {h : Heap} (a b d e f cI i1 i2 ix : Int32) (c n1 n2 nx : Nat) (hcI : cI.toInt = (c : Int)) (h0 : 0 < c) (h4 : c ≤ 4) (hn1 : i1.toInt = (n1 : Int)) (hn2 : i2.toInt = (n2 : Int)) (hnx : ix.toInt = (nx : Int)) (hl1 : n1 < c) (hl2 : n2 < c) (hlx : nx < c) (hs : i2.toInt ≠ i1.toInt) (hx : ix.toInt = i2.toInt) : WP l B0 Z n0 (fun v h' => v = some (.int 1)) h 0 0 48 #[.val (.int a), .val (.int b), .val (.int d), .val (.int e), .val (.int f), .val (.int cI), .val (.int i1), .val (.int i2), .val (.int ix), .val (.int (1 : Int32)), .unset, .unset, .unset, .unset, .unset, .unset, .unset, .unset, .unset, .unset] [] := by
  have k32_0 : (0 : Int32).toInt = 0 := by decide
  have k32_1 : (1 : Int32).toInt = 1 := by decide
  have k32_2 : (2 : Int32).toInt = 2 := by decide
  have k32_3 : (3 : Int32).toInt = 3 := by decide
  refine WP.newobj (lay := L_IQ) (vs := [.null, .null, (.int 0), (.int 0)]) at_48 (w1 hw) (w2 hw) (w3 hw) (lay_IQ hw) rfl (by decide) (by decide) (pc' := 51) rfl ?_
  intro q h1 eb_q g_q K2 O_q
  refine WP.dup at_51 rfl (pc' := 52) rfl ?_
  refine WP.iload at_52 rfl (pc' := 54) rfl ?_
  refine WP.callI (a := q) (y := (⟨"com/example/singlet/singlet/propagation/IndexQueue", "<init>", "(I)V"⟩ : MethodName)) (By := B1) (as := [(.int cI)]) (rest := [(.ref q)]) at_54 (w4 hw) (w5 hw) (w3 hw) (w6 hw) rfl rfl (by decide) (ini_met hw q cI c hcI (by omega) (by omega) g_q O_q) pd_0 rfl rfl rfl (by decide) (Nat.le_of_ble_eq_true rfl) (by decide) (by decide) (pc' := 57) rfl ?_
  rintro _ h3 ⟨rfl, hI⟩
  show WP _ _ _ _ _ _ _ _ _ _ [(.ref q)]
  refine WP.astore at_57 (pc' := 59) rfl rfl (ls' := #[.val (.int a), .val (.int b), .val (.int d), .val (.int e), .val (.int f), .val (.int cI), .val (.int i1), .val (.int i2), .val (.int ix), .val (.int (1 : Int32)), .val (.ref q), .unset, .unset, .unset, .unset, .unset, .unset, .unset, .unset, .unset]) rfl ?_
  refine WP.iload at_59 rfl (pc' := 61) rfl ?_
  refine WP.istore at_61 (pc' := 63) rfl (ls' := #[.val (.int a), .val (.int b), .val (.int d), .val (.int e), .val (.int f), .val (.int cI), .val (.int i1), .val (.int i2), .val (.int ix), .val (.int (1 : Int32)), .val (.ref q), .val (.int i1), .unset, .unset, .unset, .unset, .unset, .unset, .unset, .unset]) rfl ?_
  refine WP.iconst at_63 (z := (0 : Int32)) rfl (pc' := 64) rfl ?_
  refine WP.istore at_64 (pc' := 66) rfl (ls' := #[.val (.int a), .val (.int b), .val (.int d), .val (.int e), .val (.int f), .val (.int cI), .val (.int i1), .val (.int i2), .val (.int ix), .val (.int (1 : Int32)), .val (.ref q), .val (.int i1), .val (.int (0 : Int32)), .unset, .unset, .unset, .unset, .unset, .unset, .unset]) rfl ?_
  refine WP.iconst at_66 (z := (0 : Int32)) rfl (pc' := 67) rfl ?_
  refine WP.istore at_67 (pc' := 69) rfl (ls' := #[.val (.int a), .val (.int b), .val (.int d), .val (.int e), .val (.int f), .val (.int cI), .val (.int i1), .val (.int i2), .val (.int ix), .val (.int (1 : Int32)), .val (.ref q), .val (.int i1), .val (.int (0 : Int32)), .val (.int (0 : Int32)), .unset, .unset, .unset, .unset, .unset, .unset]) rfl ?_
  refine WP.iconst at_69 (z := (1 : Int32)) rfl (pc' := 70) rfl ?_
  refine WP.istore at_70 (pc' := 72) rfl (ls' := #[.val (.int a), .val (.int b), .val (.int d), .val (.int e), .val (.int f), .val (.int cI), .val (.int i1), .val (.int i2), .val (.int ix), .val (.int (1 : Int32)), .val (.ref q), .val (.int i1), .val (.int (0 : Int32)), .val (.int (0 : Int32)), .val (.int (1 : Int32)), .unset, .unset, .unset, .unset, .unset]) rfl ?_
  refine WP.aload at_72 rfl rfl (pc' := 74) rfl ?_
  refine WP.iload at_74 rfl (pc' := 76) rfl ?_
  refine WP.callV (a := q) (z := (⟨"com/example/singlet/singlet/propagation/IndexQueue", "add", "(I)Z"⟩ : MethodName)) (Cl := "com/example/singlet/singlet/propagation/IndexQueue") (y := (⟨"com/example/singlet/singlet/propagation/IndexQueue", "add", "(I)Z"⟩ : MethodName)) (By := B3) (as := [(.int i1)]) (rest := []) at_76 (w16 hw) (w17 hw) (w19 hw) (w18 hw) (w3 hw) (w20 hw) rfl rfl (by decide) hI.exa (add_new hw q i1 c n1 [] hI hn1 (by omega) own_nmem0 (by show _ + 1 ≤ _; simp only [List.length_cons, List.length_nil]; omega) cI hcI) pd_1 rfl rfl rfl (by decide) (Nat.le_of_ble_eq_true rfl) (by decide) (by decide) (pc' := 79) rfl ?_
  rintro _ h4 ⟨rfl, hI⟩
  replace hI : IQ Z n0 _ q c [i1] := hI
  show WP _ _ _ _ _ _ _ _ _ _ [(.int (1 : Int32))]
  refine WP.istore at_79 (pc' := 81) rfl (ls' := #[.val (.int a), .val (.int b), .val (.int d), .val (.int e), .val (.int f), .val (.int cI), .val (.int i1), .val (.int i2), .val (.int ix), .val (.int (1 : Int32)), .val (.ref q), .val (.int i1), .val (.int (0 : Int32)), .val (.int (0 : Int32)), .val (.int (1 : Int32)), .val (.int (1 : Int32)), .unset, .unset, .unset, .unset]) rfl ?_
  refine WP.aload at_81 rfl rfl (pc' := 83) rfl ?_
  refine WP.iload at_83 rfl (pc' := 85) rfl ?_
  refine WP.callV (a := q) (z := (⟨"com/example/singlet/singlet/propagation/IndexQueue", "add", "(I)Z"⟩ : MethodName)) (Cl := "com/example/singlet/singlet/propagation/IndexQueue") (y := (⟨"com/example/singlet/singlet/propagation/IndexQueue", "add", "(I)Z"⟩ : MethodName)) (By := B3) (as := [(.int i2)]) (rest := []) at_85 (w16 hw) (w17 hw) (w19 hw) (w18 hw) (w3 hw) (w20 hw) rfl rfl (by decide) hI.exa (add_new hw q i2 c n2 [i1] hI hn2 (by omega) (own_nmem (own_ne (by omega)) own_nmem0) (by show _ + 1 ≤ _; simp only [List.length_cons, List.length_nil]; omega) cI hcI) pd_1 rfl rfl rfl (by decide) (Nat.le_of_ble_eq_true rfl) (by decide) (by decide) (pc' := 88) rfl ?_
  rintro _ h5 ⟨rfl, hI⟩
  replace hI : IQ Z n0 _ q c [i1, i2] := hI
  show WP _ _ _ _ _ _ _ _ _ _ [(.int (1 : Int32))]
  refine WP.istore at_88 (pc' := 90) rfl (ls' := #[.val (.int a), .val (.int b), .val (.int d), .val (.int e), .val (.int f), .val (.int cI), .val (.int i1), .val (.int i2), .val (.int ix), .val (.int (1 : Int32)), .val (.ref q), .val (.int i1), .val (.int (0 : Int32)), .val (.int (0 : Int32)), .val (.int (1 : Int32)), .val (.int (1 : Int32)), .val (.int (1 : Int32)), .unset, .unset, .unset]) rfl ?_
  refine WP.iload at_90 rfl (pc' := 92) rfl ?_
  refine WP.iload at_92 rfl (pc' := 94) rfl ?_
  refine WP.icmpEq at_94 (tgt := 101) (by decide) (pc' := 97) rfl (fun c94 => ?_) (fun c94 => ?_)
  · exfalso; omega
  refine WP.iconst at_97 (z := (1 : Int32)) rfl (pc' := 98) rfl ?_
  refine WP.goto at_98 (pc' := 102) (by decide) ?_
  refine WP.istore at_102 (pc' := 104) rfl (ls' := #[.val (.int a), .val (.int b), .val (.int d), .val (.int e), .val (.int f), .val (.int cI), .val (.int i1), .val (.int i2), .val (.int ix), .val (.int (1 : Int32)), .val (.ref q), .val (.int i1), .val (.int (0 : Int32)), .val (.int (0 : Int32)), .val (.int (1 : Int32)), .val (.int (1 : Int32)), .val (.int (1 : Int32)), .val (.int (1 : Int32)), .unset, .unset]) rfl ?_
  refine WP.iload at_104 rfl (pc' := 106) rfl ?_
  refine WP.iload at_106 rfl (pc' := 108) rfl ?_
  refine WP.iload at_108 rfl (pc' := 110) rfl ?_
  refine WP.icmpNe at_110 (tgt := 117) (by decide) (pc' := 113) rfl (fun c110 => ?_) (fun c110 => ?_)
  · exfalso; omega
  refine WP.iconst at_113 (z := (1 : Int32)) rfl (pc' := 114) rfl ?_
  refine WP.goto at_114 (pc' := 118) (by decide) ?_
  refine WP.iand at_118 (pc' := 119) rfl ?_
  rw [show (((1 : Int32) &&& (1 : Int32)) : Int32) = (1 : Int32) from by decide]
  refine WP.istore at_119 (pc' := 121) rfl (ls' := #[.val (.int a), .val (.int b), .val (.int d), .val (.int e), .val (.int f), .val (.int cI), .val (.int i1), .val (.int i2), .val (.int ix), .val (.int (1 : Int32)), .val (.ref q), .val (.int i1), .val (.int (0 : Int32)), .val (.int (0 : Int32)), .val (.int (1 : Int32)), .val (.int (1 : Int32)), .val (.int (1 : Int32)), .val (.int (1 : Int32)), .unset, .unset]) rfl ?_
  refine WP.iload at_121 rfl (pc' := 123) rfl ?_
  refine WP.ifEq at_123 (tgt := 133) (by decide) (pc' := 126) rfl (fun c123 => ?_) (fun c123 => ?_)
  · exfalso; omega
  refine WP.iload at_126 rfl (pc' := 128) rfl ?_
  refine WP.istore at_128 (pc' := 130) rfl (ls' := #[.val (.int a), .val (.int b), .val (.int d), .val (.int e), .val (.int f), .val (.int cI), .val (.int i1), .val (.int i2), .val (.int ix), .val (.int (1 : Int32)), .val (.ref q), .val (.int i1), .val (.int i2), .val (.int (0 : Int32)), .val (.int (1 : Int32)), .val (.int (1 : Int32)), .val (.int (1 : Int32)), .val (.int (1 : Int32)), .unset, .unset]) rfl ?_
  refine WP.iconst at_130 (z := (2 : Int32)) rfl (pc' := 131) rfl ?_
  refine WP.istore at_131 (pc' := 133) rfl (ls' := #[.val (.int a), .val (.int b), .val (.int d), .val (.int e), .val (.int f), .val (.int cI), .val (.int i1), .val (.int i2), .val (.int ix), .val (.int (1 : Int32)), .val (.ref q), .val (.int i1), .val (.int i2), .val (.int (0 : Int32)), .val (.int (2 : Int32)), .val (.int (1 : Int32)), .val (.int (1 : Int32)), .val (.int (1 : Int32)), .unset, .unset]) rfl ?_
  refine WP.iload at_133 rfl (pc' := 135) rfl ?_
  refine WP.ifEq at_135 (tgt := 172) (by decide) (pc' := 138) rfl (fun c135 => ?_) (fun c135 => ?_)
  · exfalso; omega
  refine WP.aload at_138 rfl rfl (pc' := 140) rfl ?_
  refine WP.callV (a := q) (z := (⟨"com/example/singlet/singlet/propagation/IndexQueue", "poll", "()I"⟩ : MethodName)) (Cl := "com/example/singlet/singlet/propagation/IndexQueue") (y := (⟨"com/example/singlet/singlet/propagation/IndexQueue", "poll", "()I"⟩ : MethodName)) (By := B6) (as := []) (rest := []) at_140 (w35 hw) (w36 hw) (w38 hw) (w37 hw) (w3 hw) (w39 hw) rfl rfl (by decide) hI.exa (pol_met hw q i1 c n1 [i2] hI hn1 (by omega) (own_nmem (own_ne (by omega)) own_nmem0) cI hcI) pd_2 rfl rfl rfl (by decide) (Nat.le_of_ble_eq_true rfl) (by decide) (by decide) (pc' := 143) rfl ?_
  rintro _ h6 ⟨rfl, hI⟩
  show WP _ _ _ _ _ _ _ _ _ _ [(.int i1)]
  refine WP.istore at_143 (pc' := 145) rfl (ls' := #[.val (.int a), .val (.int b), .val (.int d), .val (.int e), .val (.int f), .val (.int cI), .val (.int i1), .val (.int i2), .val (.int ix), .val (.int (1 : Int32)), .val (.ref q), .val (.int i1), .val (.int i2), .val (.int (0 : Int32)), .val (.int (2 : Int32)), .val (.int (1 : Int32)), .val (.int (1 : Int32)), .val (.int (1 : Int32)), .val (.int i1), .unset]) rfl ?_
  refine WP.iload at_145 rfl (pc' := 147) rfl ?_
  refine WP.iload at_147 rfl (pc' := 149) rfl ?_
  refine WP.iload at_149 rfl (pc' := 151) rfl ?_
  refine WP.icmpNe at_151 (tgt := 158) (by decide) (pc' := 154) rfl (fun c151 => ?_) (fun c151 => ?_)
  · exfalso; omega
  refine WP.iconst at_154 (z := (1 : Int32)) rfl (pc' := 155) rfl ?_
  refine WP.goto at_155 (pc' := 159) (by decide) ?_
  refine WP.iand at_159 (pc' := 160) rfl ?_
  rw [show (((1 : Int32) &&& (1 : Int32)) : Int32) = (1 : Int32) from by decide]
  refine WP.istore at_160 (pc' := 162) rfl (ls' := #[.val (.int a), .val (.int b), .val (.int d), .val (.int e), .val (.int f), .val (.int cI), .val (.int i1), .val (.int i2), .val (.int ix), .val (.int (1 : Int32)), .val (.ref q), .val (.int i1), .val (.int i2), .val (.int (0 : Int32)), .val (.int (2 : Int32)), .val (.int (1 : Int32)), .val (.int (1 : Int32)), .val (.int (1 : Int32)), .val (.int i1), .unset]) rfl ?_
  refine WP.iload at_162 rfl (pc' := 164) rfl ?_
  refine WP.istore at_164 (pc' := 166) rfl (ls' := #[.val (.int a), .val (.int b), .val (.int d), .val (.int e), .val (.int f), .val (.int cI), .val (.int i1), .val (.int i2), .val (.int ix), .val (.int (1 : Int32)), .val (.ref q), .val (.int i2), .val (.int i2), .val (.int (0 : Int32)), .val (.int (2 : Int32)), .val (.int (1 : Int32)), .val (.int (1 : Int32)), .val (.int (1 : Int32)), .val (.int i1), .unset]) rfl ?_
  refine WP.iload at_166 rfl (pc' := 168) rfl ?_
  refine WP.iconst at_168 (z := (1 : Int32)) rfl (pc' := 169) rfl ?_
  refine WP.isub at_169 (pc' := 170) rfl ?_
  rw [show (((2 : Int32) - (1 : Int32)) : Int32) = (1 : Int32) from by decide]
  refine WP.istore at_170 (pc' := 172) rfl (ls' := #[.val (.int a), .val (.int b), .val (.int d), .val (.int e), .val (.int f), .val (.int cI), .val (.int i1), .val (.int i2), .val (.int ix), .val (.int (1 : Int32)), .val (.ref q), .val (.int i2), .val (.int i2), .val (.int (0 : Int32)), .val (.int (1 : Int32)), .val (.int (1 : Int32)), .val (.int (1 : Int32)), .val (.int (1 : Int32)), .val (.int i1), .unset]) rfl ?_
  refine WP.iload at_172 rfl (pc' := 174) rfl ?_
  refine WP.iconst at_174 (z := (1 : Int32)) rfl (pc' := 175) rfl ?_
  refine WP.icmpLt at_175 (tgt := 185) (by decide) (pc' := 178) rfl (fun c175 => ?_) (fun c175 => ?_)
  · exfalso; omega
  refine WP.iload at_178 rfl (pc' := 180) rfl ?_
  refine WP.iload at_180 rfl (pc' := 182) rfl ?_
  refine WP.icmpEq at_182 (tgt := 198) (by decide) (pc' := 185) rfl (fun c182 => ?_) (fun c182 => ?_)
  ·
    refine WP.iconst at_198 (z := (1 : Int32)) rfl (pc' := 199) rfl ?_
    refine WP.goto at_199 (pc' := 203) (by decide) ?_
    refine WP.istore at_203 (pc' := 205) rfl (ls' := #[.val (.int a), .val (.int b), .val (.int d), .val (.int e), .val (.int f), .val (.int cI), .val (.int i1), .val (.int i2), .val (.int ix), .val (.int (1 : Int32)), .val (.ref q), .val (.int i2), .val (.int i2), .val (.int (0 : Int32)), .val (.int (1 : Int32)), .val (.int (1 : Int32)), .val (.int (1 : Int32)), .val (.int (1 : Int32)), .val (.int (1 : Int32)), .unset]) rfl ?_
    refine WP.aload at_205 rfl rfl (pc' := 207) rfl ?_
    refine WP.iload at_207 rfl (pc' := 209) rfl ?_
    refine WP.callV (a := q) (z := (⟨"com/example/singlet/singlet/propagation/IndexQueue", "add", "(I)Z"⟩ : MethodName)) (Cl := "com/example/singlet/singlet/propagation/IndexQueue") (y := (⟨"com/example/singlet/singlet/propagation/IndexQueue", "add", "(I)Z"⟩ : MethodName)) (By := B3) (as := [(.int ix)]) (rest := []) at_209 (w16 hw) (w17 hw) (w19 hw) (w18 hw) (w3 hw) (w20 hw) rfl rfl (by decide) hI.exa (add_in hw q ix c nx [i2] hI hnx (by omega) (own_mem0 (own_e32 (by omega)))) pd_1 rfl rfl rfl (by decide) (Nat.le_of_ble_eq_true rfl) (by decide) (by decide) (pc' := 212) rfl ?_
    rintro _ h7 ⟨rfl, hI⟩
    show WP _ _ _ _ _ _ _ _ _ _ [(.int (0 : Int32))]
    refine WP.istore at_212 (pc' := 214) rfl (ls' := #[.val (.int a), .val (.int b), .val (.int d), .val (.int e), .val (.int f), .val (.int cI), .val (.int i1), .val (.int i2), .val (.int ix), .val (.int (1 : Int32)), .val (.ref q), .val (.int i2), .val (.int i2), .val (.int (0 : Int32)), .val (.int (1 : Int32)), .val (.int (1 : Int32)), .val (.int (1 : Int32)), .val (.int (1 : Int32)), .val (.int (1 : Int32)), .val (.int (0 : Int32))]) rfl ?_
    refine WP.iload at_214 rfl (pc' := 216) rfl ?_
    refine WP.iload at_216 rfl (pc' := 218) rfl ?_
    refine WP.iload at_218 rfl (pc' := 220) rfl ?_
    refine WP.ifNe at_220 (tgt := 227) (by decide) (pc' := 223) rfl (fun c220 => ?_) (fun c220 => ?_)
    ·
      refine WP.iconst at_227 (z := (0 : Int32)) rfl (pc' := 228) rfl ?_
      refine WP.icmpNe at_228 (tgt := 235) (by decide) (pc' := 231) rfl (fun c228 => ?_) (fun c228 => ?_)
      · exfalso; omega
      refine WP.iconst at_231 (z := (1 : Int32)) rfl (pc' := 232) rfl ?_
      refine WP.goto at_232 (pc' := 236) (by decide) ?_
      refine WP.iand at_236 (pc' := 237) rfl ?_
      rw [show (((1 : Int32) &&& (1 : Int32)) : Int32) = (1 : Int32) from by decide]
      refine WP.istore at_237 (pc' := 239) rfl (ls' := #[.val (.int a), .val (.int b), .val (.int d), .val (.int e), .val (.int f), .val (.int cI), .val (.int i1), .val (.int i2), .val (.int ix), .val (.int (1 : Int32)), .val (.ref q), .val (.int i2), .val (.int i2), .val (.int (0 : Int32)), .val (.int (1 : Int32)), .val (.int (1 : Int32)), .val (.int (1 : Int32)), .val (.int (1 : Int32)), .val (.int (1 : Int32)), .val (.int (0 : Int32))]) rfl ?_
      refine WP.iload at_239 rfl (pc' := 241) rfl ?_
      refine WP.ifNe at_241 (tgt := 279) (by decide) (pc' := 244) rfl (fun c241 => ?_) (fun c241 => ?_)
      ·
        refine WP.iload at_279 rfl (pc' := 281) rfl ?_
        refine WP.aload at_281 rfl rfl (pc' := 283) rfl ?_
        refine WP.callV (a := q) (z := (⟨"com/example/singlet/singlet/propagation/IndexQueue", "size", "()I"⟩ : MethodName)) (Cl := "com/example/singlet/singlet/propagation/IndexQueue") (y := (⟨"com/example/singlet/singlet/propagation/IndexQueue", "size", "()I"⟩ : MethodName)) (By := B4) (as := []) (rest := [(.int (1 : Int32))]) at_283 (w25 hw) (w26 hw) (w28 hw) (w27 hw) (w3 hw) (w29 hw) rfl rfl (by decide) hI.exa (siz_met hw q c [i2] hI) pd_2 rfl rfl rfl (by decide) (Nat.le_of_ble_eq_true rfl) (by decide) (by decide) (pc' := 286) rfl ?_
        rintro _ h8 ⟨s, rfl, hs_, hI⟩
        obtain rfl : s = (1 : Int32) := own_e32 (by rw [hs_]; rfl)
        show WP _ _ _ _ _ _ _ _ _ _ [(.int (1 : Int32)), (.int (1 : Int32))]
        refine WP.iload at_286 rfl (pc' := 288) rfl ?_
        refine WP.icmpNe at_288 (tgt := 295) (by decide) (pc' := 291) rfl (fun c288 => ?_) (fun c288 => ?_)
        · exfalso; omega
        refine WP.iconst at_291 (z := (1 : Int32)) rfl (pc' := 292) rfl ?_
        refine WP.goto at_292 (pc' := 296) (by decide) ?_
        refine WP.iand at_296 (pc' := 297) rfl ?_
        rw [show (((1 : Int32) &&& (1 : Int32)) : Int32) = (1 : Int32) from by decide]
        refine WP.istore at_297 (pc' := 299) rfl (ls' := #[.val (.int a), .val (.int b), .val (.int d), .val (.int e), .val (.int f), .val (.int cI), .val (.int i1), .val (.int i2), .val (.int ix), .val (.int (1 : Int32)), .val (.ref q), .val (.int i2), .val (.int i2), .val (.int (0 : Int32)), .val (.int (1 : Int32)), .val (.int (1 : Int32)), .val (.int (1 : Int32)), .val (.int (1 : Int32)), .val (.int (1 : Int32)), .val (.int (0 : Int32))]) rfl ?_
        refine WP.iload at_299 rfl (pc' := 301) rfl ?_
        refine WP.aload at_301 rfl rfl (pc' := 303) rfl ?_
        refine WP.iload at_303 rfl (pc' := 305) rfl ?_
        refine WP.callV (a := q) (z := (⟨"com/example/singlet/singlet/propagation/IndexQueue", "contains", "(I)Z"⟩ : MethodName)) (Cl := "com/example/singlet/singlet/propagation/IndexQueue") (y := (⟨"com/example/singlet/singlet/propagation/IndexQueue", "contains", "(I)Z"⟩ : MethodName)) (By := B5) (as := [(.int ix)]) (rest := [(.int (1 : Int32))]) at_305 (w30 hw) (w31 hw) (w33 hw) (w32 hw) (w3 hw) (w34 hw) rfl rfl (by decide) hI.exa (con_met hw q ix c nx [i2] hI hnx (by omega) (own_mem0 (own_e32 (by omega)))) pd_1 rfl rfl rfl (by decide) (Nat.le_of_ble_eq_true rfl) (by decide) (by decide) (pc' := 308) rfl ?_
        rintro _ h9 ⟨rfl, hI⟩
        show WP _ _ _ _ _ _ _ _ _ _ [(.int (1 : Int32)), (.int (1 : Int32))]
        refine WP.iand at_308 (pc' := 309) rfl ?_
        rw [show (((1 : Int32) &&& (1 : Int32)) : Int32) = (1 : Int32) from by decide]
        refine WP.istore at_309 (pc' := 311) rfl (ls' := #[.val (.int a), .val (.int b), .val (.int d), .val (.int e), .val (.int f), .val (.int cI), .val (.int i1), .val (.int i2), .val (.int ix), .val (.int (1 : Int32)), .val (.ref q), .val (.int i2), .val (.int i2), .val (.int (0 : Int32)), .val (.int (1 : Int32)), .val (.int (1 : Int32)), .val (.int (1 : Int32)), .val (.int (1 : Int32)), .val (.int (1 : Int32)), .val (.int (0 : Int32))]) rfl ?_
        refine WP.iload at_311 rfl (pc' := 313) rfl ?_
        refine WP.iconst at_313 (z := (1 : Int32)) rfl (pc' := 314) rfl ?_
        refine WP.icmpLt at_314 (tgt := 337) (by decide) (pc' := 317) rfl (fun c314 => ?_) (fun c314 => ?_)
        · exfalso; omega
        refine WP.iload at_317 rfl (pc' := 319) rfl ?_
        refine WP.aload at_319 rfl rfl (pc' := 321) rfl ?_
        refine WP.callV (a := q) (z := (⟨"com/example/singlet/singlet/propagation/IndexQueue", "poll", "()I"⟩ : MethodName)) (Cl := "com/example/singlet/singlet/propagation/IndexQueue") (y := (⟨"com/example/singlet/singlet/propagation/IndexQueue", "poll", "()I"⟩ : MethodName)) (By := B6) (as := []) (rest := [(.int (1 : Int32))]) at_321 (w35 hw) (w36 hw) (w38 hw) (w37 hw) (w3 hw) (w39 hw) rfl rfl (by decide) hI.exa (pol_met hw q i2 c n2 [] hI hn2 (by omega) own_nmem0 cI hcI) pd_2 rfl rfl rfl (by decide) (Nat.le_of_ble_eq_true rfl) (by decide) (by decide) (pc' := 324) rfl ?_
        rintro _ h10 ⟨rfl, hI⟩
        show WP _ _ _ _ _ _ _ _ _ _ [(.int i2), (.int (1 : Int32))]
        refine WP.iload at_324 rfl (pc' := 326) rfl ?_
        refine WP.icmpNe at_326 (tgt := 333) (by decide) (pc' := 329) rfl (fun c326 => ?_) (fun c326 => ?_)
        · exfalso; omega
        refine WP.iconst at_329 (z := (1 : Int32)) rfl (pc' := 330) rfl ?_
        refine WP.goto at_330 (pc' := 334) (by decide) ?_
        refine WP.iand at_334 (pc' := 335) rfl ?_
        rw [show (((1 : Int32) &&& (1 : Int32)) : Int32) = (1 : Int32) from by decide]
        refine WP.istore at_335 (pc' := 337) rfl (ls' := #[.val (.int a), .val (.int b), .val (.int d), .val (.int e), .val (.int f), .val (.int cI), .val (.int i1), .val (.int i2), .val (.int ix), .val (.int (1 : Int32)), .val (.ref q), .val (.int i2), .val (.int i2), .val (.int (0 : Int32)), .val (.int (1 : Int32)), .val (.int (1 : Int32)), .val (.int (1 : Int32)), .val (.int (1 : Int32)), .val (.int (1 : Int32)), .val (.int (0 : Int32))]) rfl ?_
        refine WP.iload at_337 rfl (pc' := 339) rfl ?_
        refine WP.iconst at_339 (z := (2 : Int32)) rfl (pc' := 340) rfl ?_
        refine WP.icmpLt at_340 (tgt := 363) (by decide) (pc' := 343) rfl (fun c340 => ?_) (fun c340 => ?_)
        ·
          refine WP.iload at_363 rfl (pc' := 365) rfl ?_
          refine WP.iconst at_365 (z := (3 : Int32)) rfl (pc' := 366) rfl ?_
          refine WP.icmpLt at_366 (tgt := 389) (by decide) (pc' := 369) rfl (fun c366 => ?_) (fun c366 => ?_)
          ·
            refine WP.iload at_389 rfl (pc' := 391) rfl ?_
            exact WP.retN at_391 (t := .boolean) rfl (by simp) (by decide) (by decide) own_q1
          exfalso; omega
        exfalso; omega
      exfalso; omega
    exfalso; omega
  exfalso; omega
theorem law_d1n {l : Launch} {Z : State} {a0 : Array Value} (hw : HW Z a0) {n0 : Nat} {h : Heap} (a b d e f cI i1 i2 ix : Int32) (c n1 n2 nx : Nat) (hcI : cI.toInt = (c : Int)) (h0 : 0 < c) (h4 : c ≤ 4) (hn1 : i1.toInt = (n1 : Int)) (hn2 : i2.toInt = (n2 : Int)) (hnx : ix.toInt = (nx : Int)) (hl1 : n1 < c) (hl2 : n2 < c) (hlx : nx < c) (hs : i2.toInt ≠ i1.toInt) (hx : ix.toInt ≠ i2.toInt) : WP l B0 Z n0 (fun v h' => v = some (.int 1)) h 0 0 48 #[.val (.int a), .val (.int b), .val (.int d), .val (.int e), .val (.int f), .val (.int cI), .val (.int i1), .val (.int i2), .val (.int ix), .val (.int (1 : Int32)), .unset, .unset, .unset, .unset, .unset, .unset, .unset, .unset, .unset, .unset] [] := by
  have k32_0 : (0 : Int32).toInt = 0 := by decide
  have k32_1 : (1 : Int32).toInt = 1 := by decide
  have k32_2 : (2 : Int32).toInt = 2 := by decide
  have k32_3 : (3 : Int32).toInt = 3 := by decide
  refine WP.newobj (lay := L_IQ) (vs := [.null, .null, (.int 0), (.int 0)]) at_48 (w1 hw) (w2 hw) (w3 hw) (lay_IQ hw) rfl (by decide) (by decide) (pc' := 51) rfl ?_
  intro q h1 eb_q g_q K2 O_q
  refine WP.dup at_51 rfl (pc' := 52) rfl ?_
  refine WP.iload at_52 rfl (pc' := 54) rfl ?_
  refine WP.callI (a := q) (y := (⟨"com/example/singlet/singlet/propagation/IndexQueue", "<init>", "(I)V"⟩ : MethodName)) (By := B1) (as := [(.int cI)]) (rest := [(.ref q)]) at_54 (w4 hw) (w5 hw) (w3 hw) (w6 hw) rfl rfl (by decide) (ini_met hw q cI c hcI (by omega) (by omega) g_q O_q) pd_0 rfl rfl rfl (by decide) (Nat.le_of_ble_eq_true rfl) (by decide) (by decide) (pc' := 57) rfl ?_
  rintro _ h3 ⟨rfl, hI⟩
  show WP _ _ _ _ _ _ _ _ _ _ [(.ref q)]
  refine WP.astore at_57 (pc' := 59) rfl rfl (ls' := #[.val (.int a), .val (.int b), .val (.int d), .val (.int e), .val (.int f), .val (.int cI), .val (.int i1), .val (.int i2), .val (.int ix), .val (.int (1 : Int32)), .val (.ref q), .unset, .unset, .unset, .unset, .unset, .unset, .unset, .unset, .unset]) rfl ?_
  refine WP.iload at_59 rfl (pc' := 61) rfl ?_
  refine WP.istore at_61 (pc' := 63) rfl (ls' := #[.val (.int a), .val (.int b), .val (.int d), .val (.int e), .val (.int f), .val (.int cI), .val (.int i1), .val (.int i2), .val (.int ix), .val (.int (1 : Int32)), .val (.ref q), .val (.int i1), .unset, .unset, .unset, .unset, .unset, .unset, .unset, .unset]) rfl ?_
  refine WP.iconst at_63 (z := (0 : Int32)) rfl (pc' := 64) rfl ?_
  refine WP.istore at_64 (pc' := 66) rfl (ls' := #[.val (.int a), .val (.int b), .val (.int d), .val (.int e), .val (.int f), .val (.int cI), .val (.int i1), .val (.int i2), .val (.int ix), .val (.int (1 : Int32)), .val (.ref q), .val (.int i1), .val (.int (0 : Int32)), .unset, .unset, .unset, .unset, .unset, .unset, .unset]) rfl ?_
  refine WP.iconst at_66 (z := (0 : Int32)) rfl (pc' := 67) rfl ?_
  refine WP.istore at_67 (pc' := 69) rfl (ls' := #[.val (.int a), .val (.int b), .val (.int d), .val (.int e), .val (.int f), .val (.int cI), .val (.int i1), .val (.int i2), .val (.int ix), .val (.int (1 : Int32)), .val (.ref q), .val (.int i1), .val (.int (0 : Int32)), .val (.int (0 : Int32)), .unset, .unset, .unset, .unset, .unset, .unset]) rfl ?_
  refine WP.iconst at_69 (z := (1 : Int32)) rfl (pc' := 70) rfl ?_
  refine WP.istore at_70 (pc' := 72) rfl (ls' := #[.val (.int a), .val (.int b), .val (.int d), .val (.int e), .val (.int f), .val (.int cI), .val (.int i1), .val (.int i2), .val (.int ix), .val (.int (1 : Int32)), .val (.ref q), .val (.int i1), .val (.int (0 : Int32)), .val (.int (0 : Int32)), .val (.int (1 : Int32)), .unset, .unset, .unset, .unset, .unset]) rfl ?_
  refine WP.aload at_72 rfl rfl (pc' := 74) rfl ?_
  refine WP.iload at_74 rfl (pc' := 76) rfl ?_
  refine WP.callV (a := q) (z := (⟨"com/example/singlet/singlet/propagation/IndexQueue", "add", "(I)Z"⟩ : MethodName)) (Cl := "com/example/singlet/singlet/propagation/IndexQueue") (y := (⟨"com/example/singlet/singlet/propagation/IndexQueue", "add", "(I)Z"⟩ : MethodName)) (By := B3) (as := [(.int i1)]) (rest := []) at_76 (w16 hw) (w17 hw) (w19 hw) (w18 hw) (w3 hw) (w20 hw) rfl rfl (by decide) hI.exa (add_new hw q i1 c n1 [] hI hn1 (by omega) own_nmem0 (by show _ + 1 ≤ _; simp only [List.length_cons, List.length_nil]; omega) cI hcI) pd_1 rfl rfl rfl (by decide) (Nat.le_of_ble_eq_true rfl) (by decide) (by decide) (pc' := 79) rfl ?_
  rintro _ h4 ⟨rfl, hI⟩
  replace hI : IQ Z n0 _ q c [i1] := hI
  show WP _ _ _ _ _ _ _ _ _ _ [(.int (1 : Int32))]
  refine WP.istore at_79 (pc' := 81) rfl (ls' := #[.val (.int a), .val (.int b), .val (.int d), .val (.int e), .val (.int f), .val (.int cI), .val (.int i1), .val (.int i2), .val (.int ix), .val (.int (1 : Int32)), .val (.ref q), .val (.int i1), .val (.int (0 : Int32)), .val (.int (0 : Int32)), .val (.int (1 : Int32)), .val (.int (1 : Int32)), .unset, .unset, .unset, .unset]) rfl ?_
  refine WP.aload at_81 rfl rfl (pc' := 83) rfl ?_
  refine WP.iload at_83 rfl (pc' := 85) rfl ?_
  refine WP.callV (a := q) (z := (⟨"com/example/singlet/singlet/propagation/IndexQueue", "add", "(I)Z"⟩ : MethodName)) (Cl := "com/example/singlet/singlet/propagation/IndexQueue") (y := (⟨"com/example/singlet/singlet/propagation/IndexQueue", "add", "(I)Z"⟩ : MethodName)) (By := B3) (as := [(.int i2)]) (rest := []) at_85 (w16 hw) (w17 hw) (w19 hw) (w18 hw) (w3 hw) (w20 hw) rfl rfl (by decide) hI.exa (add_new hw q i2 c n2 [i1] hI hn2 (by omega) (own_nmem (own_ne (by omega)) own_nmem0) (by show _ + 1 ≤ _; simp only [List.length_cons, List.length_nil]; omega) cI hcI) pd_1 rfl rfl rfl (by decide) (Nat.le_of_ble_eq_true rfl) (by decide) (by decide) (pc' := 88) rfl ?_
  rintro _ h5 ⟨rfl, hI⟩
  replace hI : IQ Z n0 _ q c [i1, i2] := hI
  show WP _ _ _ _ _ _ _ _ _ _ [(.int (1 : Int32))]
  refine WP.istore at_88 (pc' := 90) rfl (ls' := #[.val (.int a), .val (.int b), .val (.int d), .val (.int e), .val (.int f), .val (.int cI), .val (.int i1), .val (.int i2), .val (.int ix), .val (.int (1 : Int32)), .val (.ref q), .val (.int i1), .val (.int (0 : Int32)), .val (.int (0 : Int32)), .val (.int (1 : Int32)), .val (.int (1 : Int32)), .val (.int (1 : Int32)), .unset, .unset, .unset]) rfl ?_
  refine WP.iload at_90 rfl (pc' := 92) rfl ?_
  refine WP.iload at_92 rfl (pc' := 94) rfl ?_
  refine WP.icmpEq at_94 (tgt := 101) (by decide) (pc' := 97) rfl (fun c94 => ?_) (fun c94 => ?_)
  · exfalso; omega
  refine WP.iconst at_97 (z := (1 : Int32)) rfl (pc' := 98) rfl ?_
  refine WP.goto at_98 (pc' := 102) (by decide) ?_
  refine WP.istore at_102 (pc' := 104) rfl (ls' := #[.val (.int a), .val (.int b), .val (.int d), .val (.int e), .val (.int f), .val (.int cI), .val (.int i1), .val (.int i2), .val (.int ix), .val (.int (1 : Int32)), .val (.ref q), .val (.int i1), .val (.int (0 : Int32)), .val (.int (0 : Int32)), .val (.int (1 : Int32)), .val (.int (1 : Int32)), .val (.int (1 : Int32)), .val (.int (1 : Int32)), .unset, .unset]) rfl ?_
  refine WP.iload at_104 rfl (pc' := 106) rfl ?_
  refine WP.iload at_106 rfl (pc' := 108) rfl ?_
  refine WP.iload at_108 rfl (pc' := 110) rfl ?_
  refine WP.icmpNe at_110 (tgt := 117) (by decide) (pc' := 113) rfl (fun c110 => ?_) (fun c110 => ?_)
  · exfalso; omega
  refine WP.iconst at_113 (z := (1 : Int32)) rfl (pc' := 114) rfl ?_
  refine WP.goto at_114 (pc' := 118) (by decide) ?_
  refine WP.iand at_118 (pc' := 119) rfl ?_
  rw [show (((1 : Int32) &&& (1 : Int32)) : Int32) = (1 : Int32) from by decide]
  refine WP.istore at_119 (pc' := 121) rfl (ls' := #[.val (.int a), .val (.int b), .val (.int d), .val (.int e), .val (.int f), .val (.int cI), .val (.int i1), .val (.int i2), .val (.int ix), .val (.int (1 : Int32)), .val (.ref q), .val (.int i1), .val (.int (0 : Int32)), .val (.int (0 : Int32)), .val (.int (1 : Int32)), .val (.int (1 : Int32)), .val (.int (1 : Int32)), .val (.int (1 : Int32)), .unset, .unset]) rfl ?_
  refine WP.iload at_121 rfl (pc' := 123) rfl ?_
  refine WP.ifEq at_123 (tgt := 133) (by decide) (pc' := 126) rfl (fun c123 => ?_) (fun c123 => ?_)
  · exfalso; omega
  refine WP.iload at_126 rfl (pc' := 128) rfl ?_
  refine WP.istore at_128 (pc' := 130) rfl (ls' := #[.val (.int a), .val (.int b), .val (.int d), .val (.int e), .val (.int f), .val (.int cI), .val (.int i1), .val (.int i2), .val (.int ix), .val (.int (1 : Int32)), .val (.ref q), .val (.int i1), .val (.int i2), .val (.int (0 : Int32)), .val (.int (1 : Int32)), .val (.int (1 : Int32)), .val (.int (1 : Int32)), .val (.int (1 : Int32)), .unset, .unset]) rfl ?_
  refine WP.iconst at_130 (z := (2 : Int32)) rfl (pc' := 131) rfl ?_
  refine WP.istore at_131 (pc' := 133) rfl (ls' := #[.val (.int a), .val (.int b), .val (.int d), .val (.int e), .val (.int f), .val (.int cI), .val (.int i1), .val (.int i2), .val (.int ix), .val (.int (1 : Int32)), .val (.ref q), .val (.int i1), .val (.int i2), .val (.int (0 : Int32)), .val (.int (2 : Int32)), .val (.int (1 : Int32)), .val (.int (1 : Int32)), .val (.int (1 : Int32)), .unset, .unset]) rfl ?_
  refine WP.iload at_133 rfl (pc' := 135) rfl ?_
  refine WP.ifEq at_135 (tgt := 172) (by decide) (pc' := 138) rfl (fun c135 => ?_) (fun c135 => ?_)
  · exfalso; omega
  refine WP.aload at_138 rfl rfl (pc' := 140) rfl ?_
  refine WP.callV (a := q) (z := (⟨"com/example/singlet/singlet/propagation/IndexQueue", "poll", "()I"⟩ : MethodName)) (Cl := "com/example/singlet/singlet/propagation/IndexQueue") (y := (⟨"com/example/singlet/singlet/propagation/IndexQueue", "poll", "()I"⟩ : MethodName)) (By := B6) (as := []) (rest := []) at_140 (w35 hw) (w36 hw) (w38 hw) (w37 hw) (w3 hw) (w39 hw) rfl rfl (by decide) hI.exa (pol_met hw q i1 c n1 [i2] hI hn1 (by omega) (own_nmem (own_ne (by omega)) own_nmem0) cI hcI) pd_2 rfl rfl rfl (by decide) (Nat.le_of_ble_eq_true rfl) (by decide) (by decide) (pc' := 143) rfl ?_
  rintro _ h6 ⟨rfl, hI⟩
  show WP _ _ _ _ _ _ _ _ _ _ [(.int i1)]
  refine WP.istore at_143 (pc' := 145) rfl (ls' := #[.val (.int a), .val (.int b), .val (.int d), .val (.int e), .val (.int f), .val (.int cI), .val (.int i1), .val (.int i2), .val (.int ix), .val (.int (1 : Int32)), .val (.ref q), .val (.int i1), .val (.int i2), .val (.int (0 : Int32)), .val (.int (2 : Int32)), .val (.int (1 : Int32)), .val (.int (1 : Int32)), .val (.int (1 : Int32)), .val (.int i1), .unset]) rfl ?_
  refine WP.iload at_145 rfl (pc' := 147) rfl ?_
  refine WP.iload at_147 rfl (pc' := 149) rfl ?_
  refine WP.iload at_149 rfl (pc' := 151) rfl ?_
  refine WP.icmpNe at_151 (tgt := 158) (by decide) (pc' := 154) rfl (fun c151 => ?_) (fun c151 => ?_)
  · exfalso; omega
  refine WP.iconst at_154 (z := (1 : Int32)) rfl (pc' := 155) rfl ?_
  refine WP.goto at_155 (pc' := 159) (by decide) ?_
  refine WP.iand at_159 (pc' := 160) rfl ?_
  rw [show (((1 : Int32) &&& (1 : Int32)) : Int32) = (1 : Int32) from by decide]
  refine WP.istore at_160 (pc' := 162) rfl (ls' := #[.val (.int a), .val (.int b), .val (.int d), .val (.int e), .val (.int f), .val (.int cI), .val (.int i1), .val (.int i2), .val (.int ix), .val (.int (1 : Int32)), .val (.ref q), .val (.int i1), .val (.int i2), .val (.int (0 : Int32)), .val (.int (2 : Int32)), .val (.int (1 : Int32)), .val (.int (1 : Int32)), .val (.int (1 : Int32)), .val (.int i1), .unset]) rfl ?_
  refine WP.iload at_162 rfl (pc' := 164) rfl ?_
  refine WP.istore at_164 (pc' := 166) rfl (ls' := #[.val (.int a), .val (.int b), .val (.int d), .val (.int e), .val (.int f), .val (.int cI), .val (.int i1), .val (.int i2), .val (.int ix), .val (.int (1 : Int32)), .val (.ref q), .val (.int i2), .val (.int i2), .val (.int (0 : Int32)), .val (.int (2 : Int32)), .val (.int (1 : Int32)), .val (.int (1 : Int32)), .val (.int (1 : Int32)), .val (.int i1), .unset]) rfl ?_
  refine WP.iload at_166 rfl (pc' := 168) rfl ?_
  refine WP.iconst at_168 (z := (1 : Int32)) rfl (pc' := 169) rfl ?_
  refine WP.isub at_169 (pc' := 170) rfl ?_
  rw [show (((2 : Int32) - (1 : Int32)) : Int32) = (1 : Int32) from by decide]
  refine WP.istore at_170 (pc' := 172) rfl (ls' := #[.val (.int a), .val (.int b), .val (.int d), .val (.int e), .val (.int f), .val (.int cI), .val (.int i1), .val (.int i2), .val (.int ix), .val (.int (1 : Int32)), .val (.ref q), .val (.int i2), .val (.int i2), .val (.int (0 : Int32)), .val (.int (1 : Int32)), .val (.int (1 : Int32)), .val (.int (1 : Int32)), .val (.int (1 : Int32)), .val (.int i1), .unset]) rfl ?_
  refine WP.iload at_172 rfl (pc' := 174) rfl ?_
  refine WP.iconst at_174 (z := (1 : Int32)) rfl (pc' := 175) rfl ?_
  refine WP.icmpLt at_175 (tgt := 185) (by decide) (pc' := 178) rfl (fun c175 => ?_) (fun c175 => ?_)
  · exfalso; omega
  refine WP.iload at_178 rfl (pc' := 180) rfl ?_
  refine WP.iload at_180 rfl (pc' := 182) rfl ?_
  refine WP.icmpEq at_182 (tgt := 198) (by decide) (pc' := 185) rfl (fun c182 => ?_) (fun c182 => ?_)
  · exfalso; omega
  refine WP.iload at_185 rfl (pc' := 187) rfl ?_
  refine WP.iconst at_187 (z := (2 : Int32)) rfl (pc' := 188) rfl ?_
  refine WP.icmpLt at_188 (tgt := 202) (by decide) (pc' := 191) rfl (fun c188 => ?_) (fun c188 => ?_)
  ·
    refine WP.iconst at_202 (z := (0 : Int32)) rfl (pc' := 203) rfl ?_
    refine WP.istore at_203 (pc' := 205) rfl (ls' := #[.val (.int a), .val (.int b), .val (.int d), .val (.int e), .val (.int f), .val (.int cI), .val (.int i1), .val (.int i2), .val (.int ix), .val (.int (1 : Int32)), .val (.ref q), .val (.int i2), .val (.int i2), .val (.int (0 : Int32)), .val (.int (1 : Int32)), .val (.int (1 : Int32)), .val (.int (1 : Int32)), .val (.int (1 : Int32)), .val (.int (0 : Int32)), .unset]) rfl ?_
    refine WP.aload at_205 rfl rfl (pc' := 207) rfl ?_
    refine WP.iload at_207 rfl (pc' := 209) rfl ?_
    refine WP.callV (a := q) (z := (⟨"com/example/singlet/singlet/propagation/IndexQueue", "add", "(I)Z"⟩ : MethodName)) (Cl := "com/example/singlet/singlet/propagation/IndexQueue") (y := (⟨"com/example/singlet/singlet/propagation/IndexQueue", "add", "(I)Z"⟩ : MethodName)) (By := B3) (as := [(.int ix)]) (rest := []) at_209 (w16 hw) (w17 hw) (w19 hw) (w18 hw) (w3 hw) (w20 hw) rfl rfl (by decide) hI.exa (add_new hw q ix c nx [i2] hI hnx (by omega) (own_nmem (own_ne (by omega)) own_nmem0) (by show _ + 1 ≤ _; simp only [List.length_cons, List.length_nil]; omega) cI hcI) pd_1 rfl rfl rfl (by decide) (Nat.le_of_ble_eq_true rfl) (by decide) (by decide) (pc' := 212) rfl ?_
    rintro _ h7 ⟨rfl, hI⟩
    replace hI : IQ Z n0 _ q c [i2, ix] := hI
    show WP _ _ _ _ _ _ _ _ _ _ [(.int (1 : Int32))]
    refine WP.istore at_212 (pc' := 214) rfl (ls' := #[.val (.int a), .val (.int b), .val (.int d), .val (.int e), .val (.int f), .val (.int cI), .val (.int i1), .val (.int i2), .val (.int ix), .val (.int (1 : Int32)), .val (.ref q), .val (.int i2), .val (.int i2), .val (.int (0 : Int32)), .val (.int (1 : Int32)), .val (.int (1 : Int32)), .val (.int (1 : Int32)), .val (.int (1 : Int32)), .val (.int (0 : Int32)), .val (.int (1 : Int32))]) rfl ?_
    refine WP.iload at_214 rfl (pc' := 216) rfl ?_
    refine WP.iload at_216 rfl (pc' := 218) rfl ?_
    refine WP.iload at_218 rfl (pc' := 220) rfl ?_
    refine WP.ifNe at_220 (tgt := 227) (by decide) (pc' := 223) rfl (fun c220 => ?_) (fun c220 => ?_)
    · exfalso; omega
    refine WP.iconst at_223 (z := (1 : Int32)) rfl (pc' := 224) rfl ?_
    refine WP.goto at_224 (pc' := 228) (by decide) ?_
    refine WP.icmpNe at_228 (tgt := 235) (by decide) (pc' := 231) rfl (fun c228 => ?_) (fun c228 => ?_)
    · exfalso; omega
    refine WP.iconst at_231 (z := (1 : Int32)) rfl (pc' := 232) rfl ?_
    refine WP.goto at_232 (pc' := 236) (by decide) ?_
    refine WP.iand at_236 (pc' := 237) rfl ?_
    rw [show (((1 : Int32) &&& (1 : Int32)) : Int32) = (1 : Int32) from by decide]
    refine WP.istore at_237 (pc' := 239) rfl (ls' := #[.val (.int a), .val (.int b), .val (.int d), .val (.int e), .val (.int f), .val (.int cI), .val (.int i1), .val (.int i2), .val (.int ix), .val (.int (1 : Int32)), .val (.ref q), .val (.int i2), .val (.int i2), .val (.int (0 : Int32)), .val (.int (1 : Int32)), .val (.int (1 : Int32)), .val (.int (1 : Int32)), .val (.int (1 : Int32)), .val (.int (0 : Int32)), .val (.int (1 : Int32))]) rfl ?_
    refine WP.iload at_239 rfl (pc' := 241) rfl ?_
    refine WP.ifNe at_241 (tgt := 279) (by decide) (pc' := 244) rfl (fun c241 => ?_) (fun c241 => ?_)
    · exfalso; omega
    refine WP.iload at_244 rfl (pc' := 246) rfl ?_
    refine WP.ifNe at_246 (tgt := 256) (by decide) (pc' := 249) rfl (fun c246 => ?_) (fun c246 => ?_)
    ·
      refine WP.iload at_256 rfl (pc' := 258) rfl ?_
      refine WP.iconst at_258 (z := (1 : Int32)) rfl (pc' := 259) rfl ?_
      refine WP.icmpNe at_259 (tgt := 269) (by decide) (pc' := 262) rfl (fun c259 => ?_) (fun c259 => ?_)
      · exfalso; omega
      refine WP.iload at_262 rfl (pc' := 264) rfl ?_
      refine WP.istore at_264 (pc' := 266) rfl (ls' := #[.val (.int a), .val (.int b), .val (.int d), .val (.int e), .val (.int f), .val (.int cI), .val (.int i1), .val (.int i2), .val (.int ix), .val (.int (1 : Int32)), .val (.ref q), .val (.int i2), .val (.int ix), .val (.int (0 : Int32)), .val (.int (1 : Int32)), .val (.int (1 : Int32)), .val (.int (1 : Int32)), .val (.int (1 : Int32)), .val (.int (0 : Int32)), .val (.int (1 : Int32))]) rfl ?_
      refine WP.goto at_266 (pc' := 273) (by decide) ?_
      refine WP.iload at_273 rfl (pc' := 275) rfl ?_
      refine WP.iconst at_275 (z := (1 : Int32)) rfl (pc' := 276) rfl ?_
      refine WP.iadd at_276 (pc' := 277) rfl ?_
      rw [show (((1 : Int32) + (1 : Int32)) : Int32) = (2 : Int32) from by decide]
      refine WP.istore at_277 (pc' := 279) rfl (ls' := #[.val (.int a), .val (.int b), .val (.int d), .val (.int e), .val (.int f), .val (.int cI), .val (.int i1), .val (.int i2), .val (.int ix), .val (.int (1 : Int32)), .val (.ref q), .val (.int i2), .val (.int ix), .val (.int (0 : Int32)), .val (.int (2 : Int32)), .val (.int (1 : Int32)), .val (.int (1 : Int32)), .val (.int (1 : Int32)), .val (.int (0 : Int32)), .val (.int (1 : Int32))]) rfl ?_
      refine WP.iload at_279 rfl (pc' := 281) rfl ?_
      refine WP.aload at_281 rfl rfl (pc' := 283) rfl ?_
      refine WP.callV (a := q) (z := (⟨"com/example/singlet/singlet/propagation/IndexQueue", "size", "()I"⟩ : MethodName)) (Cl := "com/example/singlet/singlet/propagation/IndexQueue") (y := (⟨"com/example/singlet/singlet/propagation/IndexQueue", "size", "()I"⟩ : MethodName)) (By := B4) (as := []) (rest := [(.int (1 : Int32))]) at_283 (w25 hw) (w26 hw) (w28 hw) (w27 hw) (w3 hw) (w29 hw) rfl rfl (by decide) hI.exa (siz_met hw q c [i2, ix] hI) pd_2 rfl rfl rfl (by decide) (Nat.le_of_ble_eq_true rfl) (by decide) (by decide) (pc' := 286) rfl ?_
      rintro _ h8 ⟨s, rfl, hs_, hI⟩
      obtain rfl : s = (2 : Int32) := own_e32 (by rw [hs_]; rfl)
      show WP _ _ _ _ _ _ _ _ _ _ [(.int (2 : Int32)), (.int (1 : Int32))]
      refine WP.iload at_286 rfl (pc' := 288) rfl ?_
      refine WP.icmpNe at_288 (tgt := 295) (by decide) (pc' := 291) rfl (fun c288 => ?_) (fun c288 => ?_)
      · exfalso; omega
      refine WP.iconst at_291 (z := (1 : Int32)) rfl (pc' := 292) rfl ?_
      refine WP.goto at_292 (pc' := 296) (by decide) ?_
      refine WP.iand at_296 (pc' := 297) rfl ?_
      rw [show (((1 : Int32) &&& (1 : Int32)) : Int32) = (1 : Int32) from by decide]
      refine WP.istore at_297 (pc' := 299) rfl (ls' := #[.val (.int a), .val (.int b), .val (.int d), .val (.int e), .val (.int f), .val (.int cI), .val (.int i1), .val (.int i2), .val (.int ix), .val (.int (1 : Int32)), .val (.ref q), .val (.int i2), .val (.int ix), .val (.int (0 : Int32)), .val (.int (2 : Int32)), .val (.int (1 : Int32)), .val (.int (1 : Int32)), .val (.int (1 : Int32)), .val (.int (0 : Int32)), .val (.int (1 : Int32))]) rfl ?_
      refine WP.iload at_299 rfl (pc' := 301) rfl ?_
      refine WP.aload at_301 rfl rfl (pc' := 303) rfl ?_
      refine WP.iload at_303 rfl (pc' := 305) rfl ?_
      refine WP.callV (a := q) (z := (⟨"com/example/singlet/singlet/propagation/IndexQueue", "contains", "(I)Z"⟩ : MethodName)) (Cl := "com/example/singlet/singlet/propagation/IndexQueue") (y := (⟨"com/example/singlet/singlet/propagation/IndexQueue", "contains", "(I)Z"⟩ : MethodName)) (By := B5) (as := [(.int ix)]) (rest := [(.int (1 : Int32))]) at_305 (w30 hw) (w31 hw) (w33 hw) (w32 hw) (w3 hw) (w34 hw) rfl rfl (by decide) hI.exa (con_met hw q ix c nx [i2, ix] hI hnx (by omega) (own_mem1 (own_e32 (by omega)))) pd_1 rfl rfl rfl (by decide) (Nat.le_of_ble_eq_true rfl) (by decide) (by decide) (pc' := 308) rfl ?_
      rintro _ h9 ⟨rfl, hI⟩
      show WP _ _ _ _ _ _ _ _ _ _ [(.int (1 : Int32)), (.int (1 : Int32))]
      refine WP.iand at_308 (pc' := 309) rfl ?_
      rw [show (((1 : Int32) &&& (1 : Int32)) : Int32) = (1 : Int32) from by decide]
      refine WP.istore at_309 (pc' := 311) rfl (ls' := #[.val (.int a), .val (.int b), .val (.int d), .val (.int e), .val (.int f), .val (.int cI), .val (.int i1), .val (.int i2), .val (.int ix), .val (.int (1 : Int32)), .val (.ref q), .val (.int i2), .val (.int ix), .val (.int (0 : Int32)), .val (.int (2 : Int32)), .val (.int (1 : Int32)), .val (.int (1 : Int32)), .val (.int (1 : Int32)), .val (.int (0 : Int32)), .val (.int (1 : Int32))]) rfl ?_
      refine WP.iload at_311 rfl (pc' := 313) rfl ?_
      refine WP.iconst at_313 (z := (1 : Int32)) rfl (pc' := 314) rfl ?_
      refine WP.icmpLt at_314 (tgt := 337) (by decide) (pc' := 317) rfl (fun c314 => ?_) (fun c314 => ?_)
      · exfalso; omega
      refine WP.iload at_317 rfl (pc' := 319) rfl ?_
      refine WP.aload at_319 rfl rfl (pc' := 321) rfl ?_
      refine WP.callV (a := q) (z := (⟨"com/example/singlet/singlet/propagation/IndexQueue", "poll", "()I"⟩ : MethodName)) (Cl := "com/example/singlet/singlet/propagation/IndexQueue") (y := (⟨"com/example/singlet/singlet/propagation/IndexQueue", "poll", "()I"⟩ : MethodName)) (By := B6) (as := []) (rest := [(.int (1 : Int32))]) at_321 (w35 hw) (w36 hw) (w38 hw) (w37 hw) (w3 hw) (w39 hw) rfl rfl (by decide) hI.exa (pol_met hw q i2 c n2 [ix] hI hn2 (by omega) (own_nmem (own_ne (by omega)) own_nmem0) cI hcI) pd_2 rfl rfl rfl (by decide) (Nat.le_of_ble_eq_true rfl) (by decide) (by decide) (pc' := 324) rfl ?_
      rintro _ h10 ⟨rfl, hI⟩
      show WP _ _ _ _ _ _ _ _ _ _ [(.int i2), (.int (1 : Int32))]
      refine WP.iload at_324 rfl (pc' := 326) rfl ?_
      refine WP.icmpNe at_326 (tgt := 333) (by decide) (pc' := 329) rfl (fun c326 => ?_) (fun c326 => ?_)
      · exfalso; omega
      refine WP.iconst at_329 (z := (1 : Int32)) rfl (pc' := 330) rfl ?_
      refine WP.goto at_330 (pc' := 334) (by decide) ?_
      refine WP.iand at_334 (pc' := 335) rfl ?_
      rw [show (((1 : Int32) &&& (1 : Int32)) : Int32) = (1 : Int32) from by decide]
      refine WP.istore at_335 (pc' := 337) rfl (ls' := #[.val (.int a), .val (.int b), .val (.int d), .val (.int e), .val (.int f), .val (.int cI), .val (.int i1), .val (.int i2), .val (.int ix), .val (.int (1 : Int32)), .val (.ref q), .val (.int i2), .val (.int ix), .val (.int (0 : Int32)), .val (.int (2 : Int32)), .val (.int (1 : Int32)), .val (.int (1 : Int32)), .val (.int (1 : Int32)), .val (.int (0 : Int32)), .val (.int (1 : Int32))]) rfl ?_
      refine WP.iload at_337 rfl (pc' := 339) rfl ?_
      refine WP.iconst at_339 (z := (2 : Int32)) rfl (pc' := 340) rfl ?_
      refine WP.icmpLt at_340 (tgt := 363) (by decide) (pc' := 343) rfl (fun c340 => ?_) (fun c340 => ?_)
      · exfalso; omega
      refine WP.iload at_343 rfl (pc' := 345) rfl ?_
      refine WP.aload at_345 rfl rfl (pc' := 347) rfl ?_
      refine WP.callV (a := q) (z := (⟨"com/example/singlet/singlet/propagation/IndexQueue", "poll", "()I"⟩ : MethodName)) (Cl := "com/example/singlet/singlet/propagation/IndexQueue") (y := (⟨"com/example/singlet/singlet/propagation/IndexQueue", "poll", "()I"⟩ : MethodName)) (By := B6) (as := []) (rest := [(.int (1 : Int32))]) at_347 (w35 hw) (w36 hw) (w38 hw) (w37 hw) (w3 hw) (w39 hw) rfl rfl (by decide) hI.exa (pol_met hw q ix c nx [] hI hnx (by omega) own_nmem0 cI hcI) pd_2 rfl rfl rfl (by decide) (Nat.le_of_ble_eq_true rfl) (by decide) (by decide) (pc' := 350) rfl ?_
      rintro _ h11 ⟨rfl, hI⟩
      show WP _ _ _ _ _ _ _ _ _ _ [(.int ix), (.int (1 : Int32))]
      refine WP.iload at_350 rfl (pc' := 352) rfl ?_
      refine WP.icmpNe at_352 (tgt := 359) (by decide) (pc' := 355) rfl (fun c352 => ?_) (fun c352 => ?_)
      · exfalso; omega
      refine WP.iconst at_355 (z := (1 : Int32)) rfl (pc' := 356) rfl ?_
      refine WP.goto at_356 (pc' := 360) (by decide) ?_
      refine WP.iand at_360 (pc' := 361) rfl ?_
      rw [show (((1 : Int32) &&& (1 : Int32)) : Int32) = (1 : Int32) from by decide]
      refine WP.istore at_361 (pc' := 363) rfl (ls' := #[.val (.int a), .val (.int b), .val (.int d), .val (.int e), .val (.int f), .val (.int cI), .val (.int i1), .val (.int i2), .val (.int ix), .val (.int (1 : Int32)), .val (.ref q), .val (.int i2), .val (.int ix), .val (.int (0 : Int32)), .val (.int (2 : Int32)), .val (.int (1 : Int32)), .val (.int (1 : Int32)), .val (.int (1 : Int32)), .val (.int (0 : Int32)), .val (.int (1 : Int32))]) rfl ?_
      refine WP.iload at_363 rfl (pc' := 365) rfl ?_
      refine WP.iconst at_365 (z := (3 : Int32)) rfl (pc' := 366) rfl ?_
      refine WP.icmpLt at_366 (tgt := 389) (by decide) (pc' := 369) rfl (fun c366 => ?_) (fun c366 => ?_)
      ·
        refine WP.iload at_389 rfl (pc' := 391) rfl ?_
        exact WP.retN at_391 (t := .boolean) rfl (by simp) (by decide) (by decide) own_q1
      exfalso; omega
    exfalso; omega
  exfalso; omega
theorem law_met {l : Launch} {Z : State} {a0 : Array Value} (hw : HW Z a0) {n0 : Nat} {h : Heap} (a b d e f : Int32) : OMet l x B0 Z n0 #[(.int a), (.int b), (.int d), (.int e), (.int f)] h (fun v h' => v = some (.int 1)) := by
  refine OMet.of_wp (ls0 := #[.val (.int a), .val (.int b), .val (.int d), .val (.int e), .val (.int f), .unset, .unset, .unset, .unset, .unset, .unset, .unset, .unset, .unset, .unset, .unset, .unset, .unset, .unset, .unset]) pl0 rfl rfl (fun m => own_entry 15 rfl rfl) ?_
  have k32_0 : (0 : Int32).toInt = 0 := by decide
  have k32_1 : (1 : Int32).toInt = 1 := by decide
  have k32_3 : (3 : Int32).toInt = 3 := by decide
  have k32_2147483647 : (2147483647 : Int32).toInt = 2147483647 := by decide
  refine WP.iconst at_0 (z := (1 : Int32)) rfl (pc' := 1) rfl ?_
  refine WP.iloadN at_1 rfl (pc' := 2) rfl ?_
  refine WP.iconst at_2 (z := (3 : Int32)) rfl (pc' := 3) rfl ?_
  refine WP.iand at_3 (pc' := 4) rfl ?_
  refine WP.iadd at_4 (pc' := 5) rfl ?_
  obtain ⟨cI, e_cI⟩ : ∃ z, z = ((1 : Int32) + (a &&& (3 : Int32))) := ⟨_, rfl⟩
  rw [← e_cI]
  refine WP.istore at_5 (pc' := 7) rfl (ls' := #[.val (.int a), .val (.int b), .val (.int d), .val (.int e), .val (.int f), .val (.int cI), .unset, .unset, .unset, .unset, .unset, .unset, .unset, .unset, .unset, .unset, .unset, .unset, .unset, .unset]) rfl ?_
  have f0 : (a &&& (3 : Int32)).toInt = a.toInt % 4 := own_mask a _ 2 _ (by decide) (by decide) (by decide)
  have f1 : cI.toInt = 1 + (a &&& (3 : Int32)).toInt := by rw [e_cI, own_iadd] <;> omega
  obtain ⟨c, hcI⟩ : ∃ c : Nat, cI.toInt = (c : Int) := ⟨cI.toInt.toNat, by omega⟩
  refine WP.iloadN at_7 rfl (pc' := 8) rfl ?_
  refine WP.ldcI at_8 (w0 hw) (pc' := 10) rfl ?_
  refine WP.iand at_10 (pc' := 11) rfl ?_
  refine WP.iload at_11 rfl (pc' := 13) rfl ?_
  refine WP.irem at_13 (own_nz (by omega)) (pc' := 14) rfl ?_
  obtain ⟨i1, e_i1⟩ : ∃ z, z = ((b &&& (2147483647 : Int32)) % cI) := ⟨_, rfl⟩
  rw [← e_i1]
  refine WP.istore at_14 (pc' := 16) rfl (ls' := #[.val (.int a), .val (.int b), .val (.int d), .val (.int e), .val (.int f), .val (.int cI), .val (.int i1), .unset, .unset, .unset, .unset, .unset, .unset, .unset, .unset, .unset, .unset, .unset, .unset, .unset]) rfl ?_
  have fi1 : (b &&& (2147483647 : Int32)).toInt = b.toInt % 2147483648 := own_mask b _ 31 _ (by decide) (by decide) (by decide)
  have gi1 := (c_iremV (b &&& (2147483647 : Int32)) cI).1 (by omega) (by omega)
  rw [← e_i1] at gi1
  obtain ⟨n1, hn1⟩ : ∃ c : Nat, i1.toInt = (c : Int) := ⟨i1.toInt.toNat, by omega⟩
  refine WP.iloadN at_16 rfl (pc' := 17) rfl ?_
  refine WP.ldcI at_17 (w0 hw) (pc' := 19) rfl ?_
  refine WP.iand at_19 (pc' := 20) rfl ?_
  refine WP.iload at_20 rfl (pc' := 22) rfl ?_
  refine WP.irem at_22 (own_nz (by omega)) (pc' := 23) rfl ?_
  obtain ⟨i2, e_i2⟩ : ∃ z, z = ((d &&& (2147483647 : Int32)) % cI) := ⟨_, rfl⟩
  rw [← e_i2]
  refine WP.istore at_23 (pc' := 25) rfl (ls' := #[.val (.int a), .val (.int b), .val (.int d), .val (.int e), .val (.int f), .val (.int cI), .val (.int i1), .val (.int i2), .unset, .unset, .unset, .unset, .unset, .unset, .unset, .unset, .unset, .unset, .unset, .unset]) rfl ?_
  have fi2 : (d &&& (2147483647 : Int32)).toInt = d.toInt % 2147483648 := own_mask d _ 31 _ (by decide) (by decide) (by decide)
  have gi2 := (c_iremV (d &&& (2147483647 : Int32)) cI).1 (by omega) (by omega)
  rw [← e_i2] at gi2
  obtain ⟨n2, hn2⟩ : ∃ c : Nat, i2.toInt = (c : Int) := ⟨i2.toInt.toNat, by omega⟩
  refine WP.iloadN at_25 rfl (pc' := 26) rfl ?_
  refine WP.ldcI at_26 (w0 hw) (pc' := 28) rfl ?_
  refine WP.iand at_28 (pc' := 29) rfl ?_
  refine WP.iload at_29 rfl (pc' := 31) rfl ?_
  refine WP.irem at_31 (own_nz (by omega)) (pc' := 32) rfl ?_
  obtain ⟨ix, e_ix⟩ : ∃ z, z = ((e &&& (2147483647 : Int32)) % cI) := ⟨_, rfl⟩
  rw [← e_ix]
  refine WP.istore at_32 (pc' := 34) rfl (ls' := #[.val (.int a), .val (.int b), .val (.int d), .val (.int e), .val (.int f), .val (.int cI), .val (.int i1), .val (.int i2), .val (.int ix), .unset, .unset, .unset, .unset, .unset, .unset, .unset, .unset, .unset, .unset, .unset]) rfl ?_
  have fix : (e &&& (2147483647 : Int32)).toInt = e.toInt % 2147483648 := own_mask e _ 31 _ (by decide) (by decide) (by decide)
  have gix := (c_iremV (e &&& (2147483647 : Int32)) cI).1 (by omega) (by omega)
  rw [← e_ix] at gix
  obtain ⟨nx, hnx⟩ : ∃ c : Nat, ix.toInt = (c : Int) := ⟨ix.toInt.toNat, by omega⟩
  refine WP.iload at_34 rfl (pc' := 36) rfl ?_
  refine WP.iconst at_36 (z := (1 : Int32)) rfl (pc' := 37) rfl ?_
  refine WP.iand at_37 (pc' := 38) rfl ?_
  refine WP.ifEq at_38 (tgt := 45) (by decide) (pc' := 41) rfl (fun c38 => ?_) (fun c38 => ?_)
  ·
    refine WP.iconst at_45 (z := (0 : Int32)) rfl (pc' := 46) rfl ?_
    refine WP.istore at_46 (pc' := 48) rfl (ls' := #[.val (.int a), .val (.int b), .val (.int d), .val (.int e), .val (.int f), .val (.int cI), .val (.int i1), .val (.int i2), .val (.int ix), .val (.int (0 : Int32)), .unset, .unset, .unset, .unset, .unset, .unset, .unset, .unset, .unset, .unset]) rfl ?_
    by_cases hs : i2.toInt = i1.toInt
    · by_cases hx : ix.toInt = i1.toInt
      · exact law_s0a hw a b d e f cI i1 i2 ix c n1 n2 nx hcI (by omega) (by omega) hn1 hn2 hnx (by omega) (by omega) (by omega) hs hx
      · exact law_s0n hw a b d e f cI i1 i2 ix c n1 n2 nx hcI (by omega) (by omega) hn1 hn2 hnx (by omega) (by omega) (by omega) hs ⟨hx, by omega⟩
    · by_cases hx : ix.toInt = i1.toInt
      · exact law_d0a hw a b d e f cI i1 i2 ix c n1 n2 nx hcI (by omega) (by omega) hn1 hn2 hnx (by omega) (by omega) (by omega) hs hx
      · by_cases hy : ix.toInt = i2.toInt
        · exact law_d0b hw a b d e f cI i1 i2 ix c n1 n2 nx hcI (by omega) (by omega) hn1 hn2 hnx (by omega) (by omega) (by omega) hs hy
        · exact law_d0n hw a b d e f cI i1 i2 ix c n1 n2 nx hcI (by omega) (by omega) hn1 hn2 hnx (by omega) (by omega) (by omega) hs ⟨hx, hy⟩
  refine WP.iconst at_41 (z := (1 : Int32)) rfl (pc' := 42) rfl ?_
  refine WP.goto at_42 (pc' := 46) (by decide) ?_
  refine WP.istore at_46 (pc' := 48) rfl (ls' := #[.val (.int a), .val (.int b), .val (.int d), .val (.int e), .val (.int f), .val (.int cI), .val (.int i1), .val (.int i2), .val (.int ix), .val (.int (1 : Int32)), .unset, .unset, .unset, .unset, .unset, .unset, .unset, .unset, .unset, .unset]) rfl ?_
  by_cases hs : i2.toInt = i1.toInt
  · exact law_s1 hw a b d e f cI i1 i2 ix c n1 n2 nx hcI (by omega) (by omega) hn1 hn2 hnx (by omega) (by omega) (by omega) hs
  · by_cases hx : ix.toInt = i2.toInt
    · exact law_d1b hw a b d e f cI i1 i2 ix c n1 n2 nx hcI (by omega) (by omega) hn1 hn2 hnx (by omega) (by omega) (by omega) hs hx
    · exact law_d1n hw a b d e f cI i1 i2 ix c n1 n2 nx hcI (by omega) (by omega) hn1 hn2 hnx (by omega) (by omega) (by omega) hs hx
theorem comes_1 {Post : Tables → Env → Array Value → State → Outcome → State → Prop} (hpost : ∀ tb e args s v u, (limb_1_1.after args s (.returned v) u = true ∧ limb_1_2.after args s (.returned v) u = true ∧ True) → FrameEnd s (.returned v) u (Jvm.fieldLocs frame_1_writes args s ++ Jvm.arrayLocs frame_1_arrays args s ++ Jvm.staticLocs frame_1_statics s) 16 128 → Post tb e args s (.returned v) u) :
    ArmFor flags0 classFile x code maxLocals ret World_1 tables_1 room_1 Calls_1 rest_1 Pre_1 Post := by
  intro l hfl _ _ p e ha hc hk s m args below hf hA hF happ hP
  obtain ⟨hcalls, hrest, hpre⟩ := hP
  obtain ⟨-, -, -, hnamed, -, -, -, hat⟩ := (Spec.applies_iff hf).mp happ
  obtain ⟨hg, hn⟩ := and_e (Cond.before_iff.mp (show (Jvm.Cond.and given_1 narrow_1).before args s = true from hpre))
  obtain ⟨q0, g0⟩ := and_e hg
  obtain ⟨a0, a1, a2, a3, a4, rfl⟩ : ∃ (a0 : Value) (a1 : Value) (a2 : Value) (a3 : Value) (a4 : Value), args = #[a0, a1, a2, a3, a4] := by
    have hs : args.size = 5 := by simpa [Cond.value, given_1] using q0
    obtain ⟨L⟩ := args
    match L, hs with
    | [a0, a1, a2, a3, a4], _ => exact ⟨a0, a1, a2, a3, a4, rfl⟩
  have hw : HW s #[a0, a1, a2, a3, a4] := fun d (hd : d ∈ tables_1) => atoms_spec (ws := Jvm.Cond.code x code maxLocals ret :: tables_1) hat d (List.mem_cons_of_mem _ hd)
  obtain ⟨p0, g1⟩ := and_e g0
  obtain ⟨i0, z0⟩ := is_v p0
  obtain rfl : a0 = (.int i0) := Option.some.inj z0
  obtain ⟨p1, g2⟩ := and_e g1
  obtain ⟨i1, z1⟩ := is_v p1
  obtain rfl : a1 = (.int i1) := Option.some.inj z1
  obtain ⟨p2, g3⟩ := and_e g2
  obtain ⟨i2, z2⟩ := is_v p2
  obtain rfl : a2 = (.int i2) := Option.some.inj z2
  obtain ⟨p3, g4⟩ := and_e g3
  obtain ⟨i3, z3⟩ := is_v p3
  obtain rfl : a3 = (.int i3) := Option.some.inj z3
  obtain ⟨i4, z4⟩ := is_v g4
  obtain rfl : a4 = (.int i4) := Option.some.inj z4
  obtain ⟨n, o, h1, h2, h3, _, L, rfl, ⟨rfl, N, -⟩, hq⟩ := law_met hw i0 i1 i2 i3 i4 (Nat.le_refl _) tables_1 p e ha hc hk s m _ below hf ((Spec.applies_iff_loose hf).mp happ).1 ⟨rfl, State.Warmed39.refl s, rfl⟩ trivial
  refine ⟨n, _, h1, h2, h3, hpost _ _ _ _ _ _ ⟨Cond.after_iff.mpr rfl, Cond.after_iff.mpr (eq_i res_at (Term.int_eval (1)) rfl), trivial⟩ ⟨hq.1, hq.2.1, (hq.2.2.sift fun y hy => Or.inr (N y hy)).mono (by decide) (by decide)⟩⟩
theorem main_1_1 : Claimed_1_1 := comes_1 fun _ _ _ _ _ _ h hF => ⟨h.1, hF⟩
theorem main_1_2 : Claimed_1_2 := comes_1 fun _ _ _ _ _ _ h hF => ⟨h.2.1, hF⟩
end Jvm.Pilot.@@N@@
namespace Jvm.Pilot.@@N@@
open Jvm Jvm.ClassFile Sem Op Lib Jvm.Free Jvm.Stand Jvm.Pilot.@@N@@.Jvm.D
/-! MADE BY PROGRAM (witnessworld.py) out of the Statement's table words and the real class files: 11 classes; the members and pool entries that the words name. The judged class is class 1, her method 1. -/
namespace start1
open Jvm.ClassFile
def u (s : String) : CpInfo := .utf8 (stringToUtf16 s)
/-- a pool by its gaps: so many unusable entries, then the entry; so many at the end -/
def gap : Nat → List CpInfo → List CpInfo
  | 0, r => r
  | n + 1, r => .unusable :: gap n r
def poolList (es : List (Nat × CpInfo)) (last : Nat) : List CpInfo := es.foldr (fun e r => gap e.1 (e.2 :: r)) (gap last [])
def pool (es : List (Nat × CpInfo)) (last : Nat) : Array CpInfo := ⟨poolList es last⟩
def fileOf (pool : Array CpInfo) (this : Nat) (attrs : Array Attribute := #[]) (ms : Array MethodInfo := #[]) (fl : Nat := 33) (sup : Nat := 0) (ifs : Array Nat := #[]) (fds : Array FieldInfo := #[]) : ClassFile where
  minorVersion := 0
  majorVersion := 65
  constantPool := pool
  accessFlags := fl
  thisClass := this
  superClass := sup
  interfaces := ifs
  fields := fds
  methods := ms
  attributes := attrs
def plain (name : String) (sup : Option ClassId) : Class where
  name := name
  kind := .ordinary
  loader := none
  accessFlags := 33
  super := sup
  interfaces := #[]
  cf := none
  fields := #[]
  methods := #[]
  instanceTypes := #[]
  staticTypes := #[]
  resolved := #[]
  callSites := []
  init := .initialized
  statics := none
  mirror := none

def pool0 : Array CpInfo := pool [(5, u "<init>"), (0, u "()V"), (1, .class_ 10), (1, u "java/lang/Object")] 113

def k0c0 : Code := { maxStack := 0, maxLocals := 1, code := object_method_1_code, exceptionTable := #[], attributes := #[] }
def k0m0 : Method := { name := "<init>", desc := "()V", sig := { parameters := [], returnType := none }, accessFlags := 1, code := some k0c0 }
/-- java/lang/Object -/
def k0 : Class := { plain "java/lang/Object" none with
  accessFlags := 33
  interfaces := #[]
  cf := some (fileOf pool0 8 #[] #[{ accessFlags := 1, nameIndex := 5, descriptorIndex := 6, attributes := #[] }] 33 0 #[] #[])
  fields := #[]
  methods := #[k0m0]
  instanceTypes := #[]
  staticTypes := #[]
  resolved := Array.replicate 124 none
  statics := none }

def pool1 : Array CpInfo := pool [(2, .class_ 4), (1, u "java/lang/Object"), (0, u "<init>"), (0, u "()V"), (0, .integer 2147483647), (0, .class_ 9), (0, u "com/example/singlet/singlet/propagation/IndexQueue"), (0, .methodref 8 11), (0, .nameAndType 5 12), (0, u "(I)V"), (0, .methodref 8 14), (0, .nameAndType 15 16), (0, u "add"), (0, u "(I)Z"), (0, .methodref 8 18), (0, .nameAndType 19 20), (0, u "poll"), (0, u "()I"), (0, .methodref 8 22), (0, .nameAndType 23 20), (0, u "size"), (0, .methodref 8 25), (0, .nameAndType 26 16), (0, u "contains"), (0, .class_ 28), (0, u "com/example/singlet/singlet/propagation/IndexQueueAddPinLaw"), (2, u "law"), (0, u "(IIIII)Z")] 3

def k1m0 : Method := { name := "<init>", desc := "()V", sig := { parameters := [], returnType := none }, accessFlags := 1, code := none }
def k1c1 : Code := { maxStack := 3, maxLocals := 20, code := code, exceptionTable := #[], attributes := #[] }
def k1m1 : Method := { name := "law", desc := "(IIIII)Z", sig := { parameters := [.int, .int, .int, .int, .int], returnType := some .boolean }, accessFlags := 9, code := some k1c1 }
/-- com/example/singlet/singlet/propagation/IndexQueueAddPinLaw -/
def k1 : Class := { plain "com/example/singlet/singlet/propagation/IndexQueueAddPinLaw" (some 0) with
  accessFlags := 49
  interfaces := #[]
  cf := some (fileOf pool1 27 #[] #[{ accessFlags := 1, nameIndex := 5, descriptorIndex := 6, attributes := #[] }, { accessFlags := 9, nameIndex := 31, descriptorIndex := 32, attributes := #[] }] 49 2 #[] #[])
  fields := #[]
  methods := #[k1m0, k1m1]
  instanceTypes := #[]
  staticTypes := #[]
  resolved := Array.replicate 36 none
  statics := none }

def pool2 : Array CpInfo := pool [(1, .methodref 2 3), (0, .class_ 4), (0, .nameAndType 5 6), (0, u "java/lang/Object"), (0, u "<init>"), (0, u "()V"), (9, .fieldref 17 18), (0, .class_ 19), (0, .nameAndType 20 21), (0, u "com/example/singlet/singlet/propagation/IndexQueue"), (0, u "ring"), (0, u "[I"), (0, .fieldref 17 23), (0, .nameAndType 24 25), (0, u "queued"), (0, u "[Z"), (0, .fieldref 17 27), (0, .nameAndType 28 29), (0, u "head"), (0, u "I"), (0, .fieldref 17 31), (0, .nameAndType 32 29), (0, u "size"), (7, u "poll"), (0, u "()I"), (0, u "(I)V"), (3, u "add"), (0, u "(I)Z"), (0, u "contains")] 20

def k2c0 : Code := { maxStack := 3, maxLocals := 2, code := prog_44_method_1_code, exceptionTable := #[], attributes := #[] }
def k2m0 : Method := { name := "<init>", desc := "(I)V", sig := { parameters := [.int], returnType := none }, accessFlags := 1, code := some k2c0 }
def k2c1 : Code := { maxStack := 3, maxLocals := 2, code := prog_44_method_2_code, exceptionTable := #[], attributes := #[] }
def k2m1 : Method := { name := "add", desc := "(I)Z", sig := { parameters := [.int], returnType := some .boolean }, accessFlags := 1, code := some k2c1 }
def k2c2 : Code := { maxStack := 3, maxLocals := 2, code := prog_44_method_3_code, exceptionTable := #[], attributes := #[] }
def k2m2 : Method := { name := "poll", desc := "()I", sig := { parameters := [], returnType := some .int }, accessFlags := 1, code := some k2c2 }
def k2c3 : Code := { maxStack := 2, maxLocals := 2, code := prog_44_method_4_code, exceptionTable := #[], attributes := #[] }
def k2m3 : Method := { name := "contains", desc := "(I)Z", sig := { parameters := [.int], returnType := some .boolean }, accessFlags := 1, code := some k2c3 }
def k2c4 : Code := { maxStack := 1, maxLocals := 1, code := prog_44_method_5_code, exceptionTable := #[], attributes := #[] }
def k2m4 : Method := { name := "size", desc := "()I", sig := { parameters := [], returnType := some .int }, accessFlags := 1, code := some k2c4 }
/-- com/example/singlet/singlet/propagation/IndexQueue -/
def k2 : Class := { plain "com/example/singlet/singlet/propagation/IndexQueue" (some 0) with
  accessFlags := 49
  interfaces := #[]
  cf := some (fileOf pool2 17 #[] #[{ accessFlags := 1, nameIndex := 5, descriptorIndex := 42, attributes := #[] }, { accessFlags := 1, nameIndex := 46, descriptorIndex := 47, attributes := #[] }, { accessFlags := 1, nameIndex := 40, descriptorIndex := 41, attributes := #[] }, { accessFlags := 1, nameIndex := 48, descriptorIndex := 47, attributes := #[] }, { accessFlags := 1, nameIndex := 32, descriptorIndex := 41, attributes := #[] }] 49 2 #[] #[{ accessFlags := 18, nameIndex := 20, descriptorIndex := 21, attributes := #[] }, { accessFlags := 18, nameIndex := 24, descriptorIndex := 25, attributes := #[] }, { accessFlags := 2, nameIndex := 28, descriptorIndex := 29, attributes := #[] }, { accessFlags := 2, nameIndex := 32, descriptorIndex := 29, attributes := #[] }])
  fields := #[{ name := "ring", type := (.array .int), accessFlags := 18, slot := 0, constantValue := 0 }, { name := "queued", type := (.array .boolean), accessFlags := 18, slot := 1, constantValue := 0 }, { name := "head", type := .int, accessFlags := 2, slot := 2, constantValue := 0 }, { name := "size", type := .int, accessFlags := 2, slot := 3, constantValue := 0 }]
  methods := #[k2m0, k2m1, k2m2, k2m3, k2m4]
  instanceTypes := #[(.array .int), (.array .boolean), .int, .int]
  staticTypes := #[]
  resolved := Array.replicate 69 none
  statics := none }

def pool3 : Array CpInfo := pool [(1, u "java/lang/Cloneable"), (0, .class_ 1), (0, u "java/lang/Object"), (0, .class_ 3)] 3

/-- java/lang/Cloneable -/
def k3 : Class := { plain "java/lang/Cloneable" (some 0) with
  accessFlags := 1537
  interfaces := #[]
  cf := some (fileOf pool3 2 #[] #[] 1537 4 #[] #[])
  fields := #[]
  methods := #[]
  instanceTypes := #[]
  staticTypes := #[]
  resolved := Array.replicate 8 none
  statics := none }

def pool4 : Array CpInfo := pool [(1, u "java/io/Serializable"), (0, .class_ 1), (0, u "java/lang/Object"), (0, .class_ 3)] 3

/-- java/io/Serializable -/
def k4 : Class := { plain "java/io/Serializable" (some 0) with
  accessFlags := 1537
  interfaces := #[]
  cf := some (fileOf pool4 2 #[] #[] 1537 4 #[] #[])
  fields := #[]
  methods := #[]
  instanceTypes := #[]
  staticTypes := #[]
  resolved := Array.replicate 8 none
  statics := none }

/-- the primitive boolean -/
def k5 : Class := { plain "boolean" none with kind := .primitive 'Z', accessFlags := 0x411 }
/-- [Z -/
def k6 : Class := { plain "[Z" (some 0) with kind := .array 5 .boolean, interfaces := #[3, 4], accessFlags := 1041 }

/-- the primitive byte -/
def k7 : Class := { plain "byte" none with kind := .primitive 'B', accessFlags := 0x411 }
/-- [B -/
def k8 : Class := { plain "[B" (some 0) with kind := .array 7 .byte, interfaces := #[3, 4], accessFlags := 1041 }

/-- the primitive int -/
def k9 : Class := { plain "int" none with kind := .primitive 'I', accessFlags := 0x411 }
/-- [I -/
def k10 : Class := { plain "[I" (some 0) with kind := .array 9 .int, interfaces := #[3, 4], accessFlags := 1041 }

def heap : Heap := #[]
def classes : Array Class := #[k0, k1, k2, k3, k4, k5, k6, k7, k8, k9, k10]
def interned : List (Array UInt16 × Addr) := []
def slotsUsed : Nat := 0
def theMethod : MethodId := ⟨1, 1⟩
def args0 : Array Value := #[.int 5, .int 1, .int 2, .int 3, .int 1]
def aboutOver (below : List Frame) : State where
  vm := { classes := classes, interned := interned.toArray }
  heap := heap
  slotsUsed := slotsUsed
  threads := #[{ frames := .invoking theMethod args0 :: below }]
def below0 : List Frame := [.native { method := ⟨0, 0⟩, args := #[] }]
def about1 : State := aboutOver below0
def p0 : Program := .bare "" "" ""
def e0 : Env := launch0.env 0 0 0
theorem w_frames : about1.frames = Frame.invoking theMethod args0 :: below0 := rfl
set_option maxRecDepth 65536 in
theorem w_args : argsFit about1.vm theMethod args0 = true := by decide +kernel
set_option maxRecDepth 65536 in
theorem w_heap : heapFits about1 = true := by decide +kernel
set_option maxRecDepth 65536 in
theorem w_runnable : about1.curStatus? = some .runnable := by decide +kernel
set_option maxRecDepth 65536 in
theorem w_alone : about1.alone = true := by decide +kernel
set_option maxRecDepth 65536 in
theorem w_named : about1.methodNamed? x = some theMethod := by decide +kernel
set_option maxRecDepth 65536 in
theorem w_hears : about1.hears theMethod below0 = true := by decide +kernel
set_option maxRecDepth 65536 in
theorem w_ripe : about1.ripe theMethod args0 below0 = true := by decide +kernel
theorem w_running : about1.status = .running := rfl
set_option maxRecDepth 65536 in
theorem w_room : about1.hasRoom e0.platform room_1 = true :=
  launch0.hasRoom_least _ room_1 (by decide +kernel) (by decide +kernel) (by decide +kernel) (by decide +kernel) (by decide +kernel) (by decide +kernel)
theorem allAtoms_all (ts : List Jvm.Cond) (a : Array Jvm.Value) (st : Jvm.State) : (allAtoms ts).before a st = ts.all (fun c => c.before a st) := by
  induction ts with
  | nil => rfl
  | cons c t ih =>
    show (Jvm.Cond.and c (allAtoms t)).before a st = _
    rw [Jvm.Cond.before_and, ih, List.all_cons]
def words1 : List Jvm.Cond := Jvm.Cond.code x code maxLocals ret :: tables_1
/-- a 'code' word, met by the world's own term for the bytes: nothing is compared byte by byte -/
theorem code_word {y : MethodName} {bytes : ByteArray} {mx : Nat} {rt : Option FieldType} {a : Array Value} {s : State} {m : MethodId} {meth : Method} {c : Code} (h1 : s.methodNamed? y = some m) (h2 : s.vm.method? m = some meth) (h3 : meth.code = some c) (h4 : c.code = bytes)
    (h5 : (c.maxLocals == mx && c.exceptionTable.isEmpty && decide (c.maxStack ≤ mostOperands) && decide (meth.sig.returnType = rt) && !meth.locks && decide (parseMethodDescriptor y.desc = some meth.sig)) = true) : (Jvm.Cond.code y bytes mx rt).before a s = true := by
  simp only [Bool.and_eq_true, beq_iff_eq, Bool.not_eq_true', decide_eq_true_eq] at h5
  obtain ⟨⟨⟨⟨⟨g1, g2⟩, g3⟩, g4⟩, g5⟩, g6⟩ := h5
  simp [Cond.before, Cond.holds, Cond.value, h1, h2, h3, h4, g1, g2, g3, g4, g5, g6]
def isCode : Jvm.Cond → Bool
  | .code _ _ _ _ => true
  | _ => false
theorem all_split {L : List Jvm.Cond} {P : Jvm.Cond → Bool} (h1 : L.all (fun c => isCode c || P c) = true) (h2 : ∀ c ∈ L.filter isCode, P c = true) : L.all P = true := by
  refine List.all_eq_true.mpr fun c hc => ?_
  have h := List.all_eq_true.mp h1 c hc
  rcases Bool.eq_false_or_eq_true (isCode c) with hi | hi
  · exact h2 c (List.mem_filter.mpr ⟨hc, hi⟩)
  · simpa [hi] using h
set_option maxRecDepth 65536 in
theorem w_c0 : (Jvm.Cond.code x code maxLocals ret).before args0 about1 = true := code_word (m := ⟨1, 1⟩) (meth := k1m1) (c := k1c1) (by decide +kernel) rfl rfl rfl (by decide +kernel)
set_option maxRecDepth 65536 in
theorem w_c1 : (Jvm.Cond.code ({ cls := "com/example/singlet/singlet/propagation/IndexQueue", name := "<init>", desc := "(I)V" } : Jvm.MethodName) prog_44_method_1_code (2 : Nat) (Option.none : Option Jvm.ClassFile.FieldType)).before args0 about1 = true := code_word (m := ⟨2, 0⟩) (meth := k2m0) (c := k2c0) (by decide +kernel) rfl rfl rfl (by decide +kernel)
set_option maxRecDepth 65536 in
theorem w_c2 : (Jvm.Cond.code ({ cls := "java/lang/Object", name := "<init>", desc := "()V" } : Jvm.MethodName) object_method_1_code (1 : Nat) (Option.none : Option Jvm.ClassFile.FieldType)).before args0 about1 = true := code_word (m := ⟨0, 0⟩) (meth := k0m0) (c := k0c0) (by decide +kernel) rfl rfl rfl (by decide +kernel)
set_option maxRecDepth 65536 in
theorem w_c3 : (Jvm.Cond.code ({ cls := "com/example/singlet/singlet/propagation/IndexQueue", name := "add", desc := "(I)Z" } : Jvm.MethodName) prog_44_method_2_code (2 : Nat) (Option.some Jvm.ClassFile.FieldType.boolean)).before args0 about1 = true := code_word (m := ⟨2, 1⟩) (meth := k2m1) (c := k2c1) (by decide +kernel) rfl rfl rfl (by decide +kernel)
set_option maxRecDepth 65536 in
theorem w_c4 : (Jvm.Cond.code ({ cls := "com/example/singlet/singlet/propagation/IndexQueue", name := "size", desc := "()I" } : Jvm.MethodName) prog_44_method_5_code (1 : Nat) (Option.some Jvm.ClassFile.FieldType.int)).before args0 about1 = true := code_word (m := ⟨2, 4⟩) (meth := k2m4) (c := k2c4) (by decide +kernel) rfl rfl rfl (by decide +kernel)
set_option maxRecDepth 65536 in
theorem w_c5 : (Jvm.Cond.code ({ cls := "com/example/singlet/singlet/propagation/IndexQueue", name := "contains", desc := "(I)Z" } : Jvm.MethodName) prog_44_method_4_code (2 : Nat) (Option.some Jvm.ClassFile.FieldType.boolean)).before args0 about1 = true := code_word (m := ⟨2, 3⟩) (meth := k2m3) (c := k2c3) (by decide +kernel) rfl rfl rfl (by decide +kernel)
set_option maxRecDepth 65536 in
theorem w_c6 : (Jvm.Cond.code ({ cls := "com/example/singlet/singlet/propagation/IndexQueue", name := "poll", desc := "()I" } : Jvm.MethodName) prog_44_method_3_code (2 : Nat) (Option.some Jvm.ClassFile.FieldType.int)).before args0 about1 = true := code_word (m := ⟨2, 2⟩) (meth := k2m2) (c := k2c2) (by decide +kernel) rfl rfl rfl (by decide +kernel)
def codes1 : List Jvm.Cond := [Jvm.Cond.code x code maxLocals ret, Jvm.Cond.code ({ cls := "com/example/singlet/singlet/propagation/IndexQueue", name := "<init>", desc := "(I)V" } : Jvm.MethodName) prog_44_method_1_code (2 : Nat) (Option.none : Option Jvm.ClassFile.FieldType), Jvm.Cond.code ({ cls := "java/lang/Object", name := "<init>", desc := "()V" } : Jvm.MethodName) object_method_1_code (1 : Nat) (Option.none : Option Jvm.ClassFile.FieldType), Jvm.Cond.code ({ cls := "com/example/singlet/singlet/propagation/IndexQueue", name := "add", desc := "(I)Z" } : Jvm.MethodName) prog_44_method_2_code (2 : Nat) (Option.some Jvm.ClassFile.FieldType.boolean), Jvm.Cond.code ({ cls := "com/example/singlet/singlet/propagation/IndexQueue", name := "size", desc := "()I" } : Jvm.MethodName) prog_44_method_5_code (1 : Nat) (Option.some Jvm.ClassFile.FieldType.int), Jvm.Cond.code ({ cls := "com/example/singlet/singlet/propagation/IndexQueue", name := "contains", desc := "(I)Z" } : Jvm.MethodName) prog_44_method_4_code (2 : Nat) (Option.some Jvm.ClassFile.FieldType.boolean), Jvm.Cond.code ({ cls := "com/example/singlet/singlet/propagation/IndexQueue", name := "poll", desc := "()I" } : Jvm.MethodName) prog_44_method_3_code (2 : Nat) (Option.some Jvm.ClassFile.FieldType.int)]
set_option maxRecDepth 65536 in
theorem codes_eq : words1.filter isCode = codes1 := rfl
theorem w_codes : ∀ c ∈ words1.filter isCode, c.before args0 about1 = true := by
  rw [codes_eq]
  intro c hc
  simp only [codes1, List.mem_cons, List.not_mem_nil, or_false] at hc
  rcases hc with rfl | rfl | rfl | rfl | rfl | rfl | rfl
  · exact w_c0
  · exact w_c1
  · exact w_c2
  · exact w_c3
  · exact w_c4
  · exact w_c5
  · exact w_c6
set_option maxRecDepth 65536 in
theorem w_t1 : (words1.take 24).all (fun c => isCode c || c.before args0 about1) = true := by decide +kernel
set_option maxRecDepth 65536 in
theorem w_t2 : (words1.drop 24).all (fun c => isCode c || c.before args0 about1) = true := by decide +kernel
theorem w_tables : (allAtoms (Jvm.Cond.code x code maxLocals ret :: tables_1)).before args0 about1 = true := by
  rw [allAtoms_all]
  show words1.all (fun c => c.before args0 about1) = true
  refine all_split ?_ w_codes
  rw [← List.take_append_drop 24 words1, List.all_append, w_t1, w_t2]
  rfl
set_option maxRecDepth 65536 in
theorem w_case : (Jvm.Cond.and given_1 narrow_1).before args0 about1 = true := by decide +kernel
theorem w_applies : (headSpec (Jvm.Cond.code x code maxLocals ret :: tables_1) room_1).applies x e0.platform about1 = true :=
  (Spec.applies_iff w_frames).mpr ⟨w_running, w_runnable, w_alone, w_named, w_hears, w_ripe, w_room, w_tables⟩
theorem atStart : AtStart classFile x code maxLocals ret World_1 tables_1 room_1 Calls_1 rest_1 Pre_1 launch0 p0 e0 about1 theMethod args0 below0 :=
  ⟨lists_1, trivial, launch0.admits_env _ _ _, launch0.least_env, fairChoices_fair.cas, fairChoices_fair.clock, w_frames, w_args, w_heap, w_applies, trivial, trivial, w_case⟩
end start1
theorem witness_1 : WitnessClaimed_1 := ⟨start1.p0, start1.e0, start1.about1, start1.theMethod, start1.args0, start1.below0, start1.atStart⟩
end Jvm.Pilot.@@N@@

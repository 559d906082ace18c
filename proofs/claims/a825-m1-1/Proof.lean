import JvmDerived
import JvmDerived.Pilot.@@N@@Statement
import JvmDerived.Pilot.@@N@@Code
set_option linter.unusedVariables false
set_option linter.unusedSimpArgs false
set_option maxRecDepth 65536
set_option maxHeartbeats 40000000

namespace Jvm.OwnWP
open Sem ClassFile Op Lib Jvm.Stand Jvm.Free Jvm.LawKit Jvm.RoadKit
/-- Java's shifts and its comparison of longs -/
def ushr (x y : Int32) : Int32 := (x.toUInt32 >>> (y &&& 31).toUInt32).toInt32
def ushrL (x : Int64) (y : Int32) : Int64 := (x.toUInt64 >>> (y &&& 0x3f).toInt64.toUInt64).toInt64
def cmpL (x y : Int64) : Int32 := if x > y then 1 else if x = y then 0 else -1
/-! A body: its class, its name, bytes, max_locals, what it returns, its room. -/
abbrev Bod : Type := String × String × ByteArray × Nat × Option FieldType × Room
abbrev Bod.own (B : Bod) : String := B.1
abbrev Bod.mname (B : Bod) : String := B.2.1
abbrev Bod.bytes (B : Bod) : ByteArray := B.2.2.1
abbrev Bod.maxL (B : Bod) : Nat := B.2.2.2.1
abbrev Bod.ret (B : Bod) : Option FieldType := B.2.2.2.2.1
abbrev Bod.room (B : Bod) : Room := B.2.2.2.2.2
def Ctx (p : Program) (s : State) (m : MethodId) (meth : Method) (c : Code) (Z : State) (B : Bod) : Prop :=
  p.tables.exec = Jvm.exec ∧ Z.Warmed39 s.vm ∧ s.vm.findClass B.own = some m.cls ∧ c.code = B.bytes ∧ c.maxLocals = B.maxL ∧ meth.sig.returnType = B.ret ∧ meth.locks = false ∧ meth.name = B.mname
/-- From pc, with these locals and this stack, over the heap h, the body returns, and Q says of what it returns and of the heap. -/
def WP (l : Launch) (B : Bod) (Z : State) (n0 : Nat) (Q : Option Value → Heap → Prop) (h : Heap) (cs sl pc : Nat) (ls : Array Slot) (st : List Value) : Prop :=
  ∀ (p : Program) (e : Env) (s : State) (m : MethodId) (args : Array Value) (below : List Frame) (meth : Method) (c : Code) (T : State) (L : List Loc),
    Ctx p s m meth c Z B → Stand p l e B.room s m args below meth c T L cs sl → T.heap = h → Fr n0 L → n0 ≤ h.size →
    ∃ (U : State) (v : Option Value) (L' : List Loc), Steps p.tables e below (T.setTop (mkF m pc ls st)) U ∧ U.status = .running ∧ Ended U below (.returned v) ∧ Q v U.heap ∧ Fr n0 L' ∧ n0 ≤ U.heap.size ∧ FrameEnd s (.returned v) U L' B.room.cells B.room.slots
/-- The contract of a body: called with the arguments as over the heap h0. -/
def OMet (l : Launch) (y : MethodName) (B : Bod) (Z : State) (n0 : Nat) (as : Array Value) (h0 : Heap) (Q : Option Value → Heap → Prop) : Prop :=
  n0 ≤ h0.size → ∀ ws, MetFree l y (head1 (Cond.code y B.bytes B.maxL B.ret :: ws) B.room) (fun a U => a = as ∧ Z.Warmed39 U.vm ∧ U.heap = h0) (fun _ _ _ _ _ => True) (fun _ U o U' => ∃ v L, o = .returned v ∧ (Q v U'.heap ∧ Fr n0 L ∧ n0 ≤ U'.heap.size) ∧ FrameEnd U o U' L B.room.cells B.room.slots)
section W
variable {l : Launch} {B : Bod} {Z : State} {n0 : Nat} {Q : Option Value → Heap → Prop} {h : Heap} {cs sl pc pc' : Nat} {ls ls' : Array Slot} {st rest : List Value} {a0 : Array Value}
theorem OMet.of_wp {y : MethodName} {as : Array Value} {ls0 : Array Slot} (hpl : plainFor y = true) (h1 : y.cls = B.own) (h2 : y.name = B.mname) (hef : ∀ m, entryFrame m as B.maxL = mkF m 0 ls0 []) (H : WP l B Z n0 Q h 0 0 0 ls0 []) : OMet l y B Z n0 as h Q := by
  intro hn ws
  refine MetFree.of_bodySF hpl hisR ?_
  intro p e s m args below meth c s₁ Bd hml0 hP hK
  obtain ⟨rfl, hZ, hh⟩ := hP
  have hnm := (name_of_methodNamed Bd.named Bd.method).1
  have hown : s.vm.findClass y.cls = some m.cls := findClass_of_methodNamed Bd.named
  have X0 := Stand.of_body Bd
  have e0 : s₁.heap = h := by rw [← hh, Bd.state]; rfl
  obtain ⟨U, v, L', a1, a2, a3, a4, a5, a6, a7⟩ := H p e s m args below meth c s₁ [] ⟨Bd.exec, hZ, h1 ▸ hown, Bd.bytes, hml0, Bd.returns, Bd.notSynchronized, hnm.trans h2⟩ X0 e0 (Fr.nil n0) hn
  exact ⟨U, _, castTop (hef m) a1, a2, a3, v, L', rfl, ⟨a4, a5, a6⟩, a7⟩
theorem WP.mono {Q' : Option Value → Heap → Prop} (H : WP l B Z n0 Q' h cs sl pc ls st) (hq : ∀ v h', Q' v h' → Q v h') : WP l B Z n0 Q h cs sl pc ls st := by
  intro p e s m args below meth c T L C X hT N hn
  obtain ⟨U, v, L', a1, a2, a3, a4, r⟩ := H p e s m args below meth c T L C X hT N hn
  exact ⟨U, v, L', a1, a2, a3, hq _ _ a4, r⟩
/-- a plain step: the state stays, the frame moves -/
theorem WP.step {pc' : Nat} {ls' : Array Slot} {st' : List Value}
    (S : ∀ (p : Program) (e : Env) (s : State) (m : MethodId) (args : Array Value) (below : List Frame) (meth : Method) (c : Code) (T : State) (L : List Loc), Ctx p s m meth c Z B → Stand p l e B.room s m args below meth c T L cs sl → T.heap = h → ∀ target, Steps p.tables e below (T.setTop (mkF m pc' ls' st')) target → Steps p.tables e below (T.setTop (mkF m pc ls st)) target)
    (H : WP l B Z n0 Q h cs sl pc' ls' st') : WP l B Z n0 Q h cs sl pc ls st := by
  intro p e s m args below meth c T L C X hT N hn
  obtain ⟨U, v, L', a1, r⟩ := H p e s m args below meth c T L C X hT N hn
  exact ⟨U, v, L', S p e s m args below meth c T L C X hT _ a1, r⟩
/-- a step to another state -/
theorem WP.stepT {pc' cs' sl' : Nat} {ls' : Array Slot} {st' : List Value} {P : Heap → Prop}
    (S : ∀ (p : Program) (e : Env) (s : State) (m : MethodId) (args : Array Value) (below : List Frame) (meth : Method) (c : Code) (T : State) (L : List Loc), Ctx p s m meth c Z B → Stand p l e B.room s m args below meth c T L cs sl → T.heap = h → Fr n0 L → n0 ≤ h.size →
      ∃ (T' : State) (h' : Heap) (L' : List Loc), Stand p l e B.room s m args below meth c T' L' cs' sl' ∧ T'.heap = h' ∧ Fr n0 L' ∧ n0 ≤ h'.size ∧ P h' ∧ ∀ target, Steps p.tables e below (T'.setTop (mkF m pc' ls' st')) target → Steps p.tables e below (T.setTop (mkF m pc ls st)) target)
    (H : ∀ h', P h' → WP l B Z n0 Q h' cs' sl' pc' ls' st') : WP l B Z n0 Q h cs sl pc ls st := by
  intro p e s m args below meth c T L C X hT N hn
  obtain ⟨T', h', L1, X', e', N', n', hp, st⟩ := S p e s m args below meth c T L C X hT N hn
  obtain ⟨U, v, L', a1, r⟩ := H h' hp p e s m args below meth c T' L1 C X' e' N' n'
  exact ⟨U, v, L', st _ a1, r⟩
/-! loads, stores, constants -/
theorem WP.iloadN {k : Fin 4} {v : Int32} (hd : decode B.bytes pc = .ok (.iload_n k, 1)) (hl : ls[k.val]? = some (.val (.int v))) (hp : pc + 1 = pc') (H : WP l B Z n0 Q h cs sl pc' ls (.int v :: st)) : WP l B Z n0 Q h cs sl pc ls st := by
  subst hp; exact WP.step (fun p e s m args below meth c T L C X hT target k => XS.iloadN X.here C.1 rfl (hb C.2.2.2.1 hd) hl k) H
theorem WP.iload {k : Nat} {v : Int32} (hd : decode B.bytes pc = .ok (.iload k, 2)) (hl : ls[k]? = some (.val (.int v))) (hp : pc + 2 = pc') (H : WP l B Z n0 Q h cs sl pc' ls (.int v :: st)) : WP l B Z n0 Q h cs sl pc ls st := by
  subst hp; exact WP.step (fun p e s m args below meth c T L C X hT target k => XS.iload X.here C.1 rfl (hb C.2.2.2.1 hd) hl k) H
theorem WP.lloadN {k : Fin 4} {v : Int64} (hd : decode B.bytes pc = .ok (.lload_n k, 1)) (hl : ls[k.val]? = some (.val (.long v))) (hp : pc + 1 = pc') (H : WP l B Z n0 Q h cs sl pc' ls (.long v :: st)) : WP l B Z n0 Q h cs sl pc ls st := by
  subst hp; exact WP.step (fun p e s m args below meth c T L C X hT target k => XS.lloadN X.here C.1 rfl (hb C.2.2.2.1 hd) hl k) H
theorem WP.lload {k : Nat} {v : Int64} (hd : decode B.bytes pc = .ok (.lload k, 2)) (hl : ls[k]? = some (.val (.long v))) (hp : pc + 2 = pc') (H : WP l B Z n0 Q h cs sl pc' ls (.long v :: st)) : WP l B Z n0 Q h cs sl pc ls st := by
  subst hp; exact WP.step (fun p e s m args below meth c T L C X hT target k => XS.lload X.here C.1 rfl (hb C.2.2.2.1 hd) hl k) H
theorem WP.aloadN {k : Fin 4} {v : Value} (hd : decode B.bytes pc = .ok (.aload_n k, 1)) (hl : ls[k.val]? = some (.val v)) (hv : v.isRef = true) (hp : pc + 1 = pc') (H : WP l B Z n0 Q h cs sl pc' ls (v :: st)) : WP l B Z n0 Q h cs sl pc ls st := by
  subst hp; exact WP.step (fun p e s m args below meth c T L C X hT target k => XS.aloadN X.here C.1 rfl (hb C.2.2.2.1 hd) hl hv k) H
theorem WP.aload {k : Nat} {v : Value} (hd : decode B.bytes pc = .ok (.aload k, 2)) (hl : ls[k]? = some (.val v)) (hv : v.isRef = true) (hp : pc + 2 = pc') (H : WP l B Z n0 Q h cs sl pc' ls (v :: st)) : WP l B Z n0 Q h cs sl pc ls st := by
  subst hp; exact WP.step (fun p e s m args below meth c T L C X hT target k => XS.aload X.here C.1 rfl (hb C.2.2.2.1 hd) hl hv k) H
theorem WP.istoreN {k : Fin 4} {x : Int32} (hd : decode B.bytes pc = .ok (.istore_n k, 1)) (hp : pc + 1 = pc') (hl : storeLocals ls k.val (.int x) = some ls') (H : WP l B Z n0 Q h cs sl pc' ls' st) : WP l B Z n0 Q h cs sl pc ls (.int x :: st) := by
  subst hp; exact WP.step (fun p e s m args below meth c T L C X hT target k => XS.istoreN X.here C.1 rfl (hb C.2.2.2.1 hd) rfl hl k) H
theorem WP.istore {k : Nat} {x : Int32} (hd : decode B.bytes pc = .ok (.istore k, 2)) (hp : pc + 2 = pc') (hl : storeLocals ls k (.int x) = some ls') (H : WP l B Z n0 Q h cs sl pc' ls' st) : WP l B Z n0 Q h cs sl pc ls (.int x :: st) := by
  subst hp; exact WP.step (fun p e s m args below meth c T L C X hT target k => XS.istore X.here C.1 rfl (hb C.2.2.2.1 hd) rfl hl k) H
theorem WP.lstoreN {k : Fin 4} {x : Int64} (hd : decode B.bytes pc = .ok (.lstore_n k, 1)) (hp : pc + 1 = pc') (hl : storeLocals ls k.val (.long x) = some ls') (H : WP l B Z n0 Q h cs sl pc' ls' st) : WP l B Z n0 Q h cs sl pc ls (.long x :: st) := by
  subst hp; exact WP.step (fun p e s m args below meth c T L C X hT target k => XS.lstoreN X.here C.1 rfl (hb C.2.2.2.1 hd) rfl hl k) H
theorem WP.lstore {k : Nat} {x : Int64} (hd : decode B.bytes pc = .ok (.lstore k, 2)) (hp : pc + 2 = pc') (hl : storeLocals ls k (.long x) = some ls') (H : WP l B Z n0 Q h cs sl pc' ls' st) : WP l B Z n0 Q h cs sl pc ls (.long x :: st) := by
  subst hp; exact WP.step (fun p e s m args below meth c T L C X hT target k => XS.lstore X.here C.1 rfl (hb C.2.2.2.1 hd) rfl hl k) H
theorem WP.astoreN {k : Fin 4} {x : Value} (hd : decode B.bytes pc = .ok (.astore_n k, 1)) (hp : pc + 1 = pc') (hv : x.isRef = true) (hl : storeLocals ls k.val x = some ls') (H : WP l B Z n0 Q h cs sl pc' ls' st) : WP l B Z n0 Q h cs sl pc ls (x :: st) := by
  subst hp; exact WP.step (fun p e s m args below meth c T L C X hT target k => XS.astoreN X.here C.1 rfl (hb C.2.2.2.1 hd) rfl hv hl k) H
theorem WP.astore {k : Nat} {x : Value} (hd : decode B.bytes pc = .ok (.astore k, 2)) (hp : pc + 2 = pc') (hv : x.isRef = true) (hl : storeLocals ls k x = some ls') (H : WP l B Z n0 Q h cs sl pc' ls' st) : WP l B Z n0 Q h cs sl pc ls (x :: st) := by
  subst hp; exact WP.step (fun p e s m args below meth c T L C X hT target k => XS.astore X.here C.1 rfl (hb C.2.2.2.1 hd) rfl hv hl k) H
theorem WP.iconst {i : Int} {z : Int32} (hd : decode B.bytes pc = .ok (.iconst i, 1)) (hz : Int32.ofInt i = z) (hp : pc + 1 = pc') (H : WP l B Z n0 Q h cs sl pc' ls (.int z :: st)) : WP l B Z n0 Q h cs sl pc ls st := by
  subst hp hz; exact WP.step (fun p e s m args below meth c T L C X hT target k => XS.iconst X.here C.1 rfl (hb C.2.2.2.1 hd) k) H
theorem WP.bipush {i : Int} {z : Int32} (hd : decode B.bytes pc = .ok (.bipush i, 2)) (hz : (Int8.ofInt i).toInt32 = z) (hp : pc + 2 = pc') (H : WP l B Z n0 Q h cs sl pc' ls (.int z :: st)) : WP l B Z n0 Q h cs sl pc ls st := by
  subst hp hz; exact WP.step (fun p e s m args below meth c T L C X hT target k => XS.bipush X.here C.1 rfl (hb C.2.2.2.1 hd) k) H
theorem WP.sipush {i : Int} {z : Int32} (hd : decode B.bytes pc = .ok (.sipush i, 3)) (hz : (Int16.ofInt i).toInt32 = z) (hp : pc + 3 = pc') (H : WP l B Z n0 Q h cs sl pc' ls (.int z :: st)) : WP l B Z n0 Q h cs sl pc ls st := by
  subst hp hz; exact WP.step (fun p e s m args below meth c T L C X hT target k => XS.sipush X.here C.1 rfl (hb C.2.2.2.1 hd) k) H
theorem WP.lconst0 (hd : decode B.bytes pc = .ok (.lconst 0, 1)) (hp : pc + 1 = pc') (H : WP l B Z n0 Q h cs sl pc' ls (.long 0 :: st)) : WP l B Z n0 Q h cs sl pc ls st := by
  subst hp; exact WP.step (fun p e s m args below meth c T L C X hT target k => XS.lconst X.here C.1 rfl (hb C.2.2.2.1 hd) k) H
theorem WP.lconst1 (hd : decode B.bytes pc = .ok (.lconst 1, 1)) (hp : pc + 1 = pc') (H : WP l B Z n0 Q h cs sl pc' ls (.long 1 :: st)) : WP l B Z n0 Q h cs sl pc ls st := by
  subst hp; exact WP.step (fun p e s m args below meth c T L C X hT target k => XS.lconst X.here C.1 rfl (hb C.2.2.2.1 hd) k) H
theorem WP.aconstNull (hd : decode B.bytes pc = .ok (.aconst_null, 1)) (hp : pc + 1 = pc') (H : WP l B Z n0 Q h cs sl pc' ls (.null :: st)) : WP l B Z n0 Q h cs sl pc ls st := by
  subst hp; exact WP.step (fun p e s m args below meth c T L C X hT target k => XS.aconstNull X.here C.1 rfl (hb C.2.2.2.1 hd) k) H
theorem WP.ldcI {i : Nat} {z : Int32} (hd : decode B.bytes pc = .ok (.ldc i, 2)) (w : (Cond.constant B.own i z).before a0 Z = true) (hp : pc + 2 = pc') (H : WP l B Z n0 Q h cs sl pc' ls (.int z :: st)) : WP l B Z n0 Q h cs sl pc ls st := by
  subst hp; exact WP.step (fun p e s m args below meth c T L C X hT target k => X.ldcInt C.1 C.2.2.1 (mvT C.2.1 w) (g := mkF m pc ls st) rfl (hb C.2.2.2.1 hd) _ k) H
theorem WP.ldcwI {i : Nat} {z : Int32} (hd : decode B.bytes pc = .ok (.ldc_w i, 3)) (w : (Cond.constant B.own i z).before a0 Z = true) (hp : pc + 3 = pc') (H : WP l B Z n0 Q h cs sl pc' ls (.int z :: st)) : WP l B Z n0 Q h cs sl pc ls st := by
  subst hp; exact WP.step (fun p e s m args below meth c T L C X hT target k => X.ldcwInt C.1 C.2.2.1 (mvT C.2.1 w) (g := mkF m pc ls st) rfl (hb C.2.2.2.1 hd) _ k) H
theorem WP.ldc2J {i : Nat} {z : Int64} (hd : decode B.bytes pc = .ok (.ldc2_w i, 3)) (w : (Cond.constantLong B.own i z).before a0 Z = true) (hp : pc + 3 = pc') (H : WP l B Z n0 Q h cs sl pc' ls (.long z :: st)) : WP l B Z n0 Q h cs sl pc ls st := by
  subst hp; exact WP.step (fun p e s m args below meth c T L C X hT target k => X.ldc2Long C.1 C.2.2.1 (mvT C.2.1 w) (g := mkF m pc ls st) rfl (hb C.2.2.2.1 hd) _ k) H
theorem WP.iinc {k : Nat} {cst : Int} {x y : Int32} (hd : decode B.bytes pc = .ok (.iinc k cst, 3)) (hp : pc + 3 = pc') (hl : ls[k]? = some (.val (.int x))) (hy : x + Int32.ofInt cst = y) (hl' : storeLocals ls k (.int y) = some ls') (H : WP l B Z n0 Q h cs sl pc' ls' st) : WP l B Z n0 Q h cs sl pc ls st := by
  subst hp hy; exact WP.step (fun p e s m args below meth c T L C X hT target k => XS.iinc X.here C.1 rfl (hb C.2.2.2.1 hd) hl hl' k) H
/-! the stack -/
theorem WP.dup {x : Value} (hd : decode B.bytes pc = .ok (.dup, 1)) (hc : x.category = 1) (hp : pc + 1 = pc') (H : WP l B Z n0 Q h cs sl pc' ls (x :: x :: st)) : WP l B Z n0 Q h cs sl pc ls (x :: st) := by
  subst hp; exact WP.step (fun p e s m args below meth c T L C X hT target k => XS.dup X.here C.1 rfl (hb C.2.2.2.1 hd) rfl hc k) H
theorem WP.pop {x : Value} (hd : decode B.bytes pc = .ok (.pop, 1)) (hc : x.category = 1) (hp : pc + 1 = pc') (H : WP l B Z n0 Q h cs sl pc' ls st) : WP l B Z n0 Q h cs sl pc ls (x :: st) := by
  subst hp; exact WP.step (fun p e s m args below meth c T L C X hT target k => XS.pop X.here C.1 rfl (hb C.2.2.2.1 hd) rfl hc k) H
theorem WP.dupX1 {x y : Value} (hd : decode B.bytes pc = .ok (.dup_x1, 1)) (hc : x.category = 1) (hc' : y.category = 1) (hp : pc + 1 = pc') (H : WP l B Z n0 Q h cs sl pc' ls (x :: y :: x :: st)) : WP l B Z n0 Q h cs sl pc ls (x :: y :: st) := by
  subst hp; exact WP.step (fun p e s m args below meth c T L C X hT target k => XS.dupX1 X.here C.1 rfl (hb C.2.2.2.1 hd) rfl hc hc' k) H
theorem WP.dup2 {x y : Value} (hd : decode B.bytes pc = .ok (.dup2, 1)) (hc : x.category = 1) (hc' : y.category = 1) (hp : pc + 1 = pc') (H : WP l B Z n0 Q h cs sl pc' ls (x :: y :: x :: y :: st)) : WP l B Z n0 Q h cs sl pc ls (x :: y :: st) := by
  subst hp; exact WP.step (fun p e s m args below meth c T L C X hT target k => Jvm.Free.XT.dup2 X.here C.1 rfl (hb C.2.2.2.1 hd) rfl hc hc' k) H
/-! arithmetic -/
theorem WP.iadd {x : Int32} {y : Int32} (hd : decode B.bytes pc = .ok (.iadd, 1)) (hp : pc + 1 = pc') (H : WP l B Z n0 Q h cs sl pc' ls (.int (x + y) :: st)) : WP l B Z n0 Q h cs sl pc ls (.int y :: .int x :: st) := by
  subst hp; exact WP.step (fun p e s m args below meth c T L C X hT target k => XS.iadd X.here C.1 rfl (hb C.2.2.2.1 hd) rfl k) H
theorem WP.isub {x : Int32} {y : Int32} (hd : decode B.bytes pc = .ok (.isub, 1)) (hp : pc + 1 = pc') (H : WP l B Z n0 Q h cs sl pc' ls (.int (x - y) :: st)) : WP l B Z n0 Q h cs sl pc ls (.int y :: .int x :: st) := by
  subst hp; exact WP.step (fun p e s m args below meth c T L C X hT target k => XS.isub X.here C.1 rfl (hb C.2.2.2.1 hd) rfl k) H
theorem WP.imul {x : Int32} {y : Int32} (hd : decode B.bytes pc = .ok (.imul, 1)) (hp : pc + 1 = pc') (H : WP l B Z n0 Q h cs sl pc' ls (.int (x * y) :: st)) : WP l B Z n0 Q h cs sl pc ls (.int y :: .int x :: st) := by
  subst hp; exact WP.step (fun p e s m args below meth c T L C X hT target k => XS.imul X.here C.1 rfl (hb C.2.2.2.1 hd) rfl k) H
theorem WP.iand {x : Int32} {y : Int32} (hd : decode B.bytes pc = .ok (.iand, 1)) (hp : pc + 1 = pc') (H : WP l B Z n0 Q h cs sl pc' ls (.int (x &&& y) :: st)) : WP l B Z n0 Q h cs sl pc ls (.int y :: .int x :: st) := by
  subst hp; exact WP.step (fun p e s m args below meth c T L C X hT target k => XS.iand X.here C.1 rfl (hb C.2.2.2.1 hd) rfl k) H
theorem WP.ior {x : Int32} {y : Int32} (hd : decode B.bytes pc = .ok (.ior, 1)) (hp : pc + 1 = pc') (H : WP l B Z n0 Q h cs sl pc' ls (.int (x ||| y) :: st)) : WP l B Z n0 Q h cs sl pc ls (.int y :: .int x :: st) := by
  subst hp; exact WP.step (fun p e s m args below meth c T L C X hT target k => XS.ior X.here C.1 rfl (hb C.2.2.2.1 hd) rfl k) H
theorem WP.ixor {x : Int32} {y : Int32} (hd : decode B.bytes pc = .ok (.ixor, 1)) (hp : pc + 1 = pc') (H : WP l B Z n0 Q h cs sl pc' ls (.int (x ^^^ y) :: st)) : WP l B Z n0 Q h cs sl pc ls (.int y :: .int x :: st) := by
  subst hp; exact WP.step (fun p e s m args below meth c T L C X hT target k => XS.ixor X.here C.1 rfl (hb C.2.2.2.1 hd) rfl k) H
theorem WP.ladd {x : Int64} {y : Int64} (hd : decode B.bytes pc = .ok (.ladd, 1)) (hp : pc + 1 = pc') (H : WP l B Z n0 Q h cs sl pc' ls (.long (x + y) :: st)) : WP l B Z n0 Q h cs sl pc ls (.long y :: .long x :: st) := by
  subst hp; exact WP.step (fun p e s m args below meth c T L C X hT target k => XS.ladd X.here C.1 rfl (hb C.2.2.2.1 hd) rfl k) H
theorem WP.lsub {x : Int64} {y : Int64} (hd : decode B.bytes pc = .ok (.lsub, 1)) (hp : pc + 1 = pc') (H : WP l B Z n0 Q h cs sl pc' ls (.long (x - y) :: st)) : WP l B Z n0 Q h cs sl pc ls (.long y :: .long x :: st) := by
  subst hp; exact WP.step (fun p e s m args below meth c T L C X hT target k => XS.lsub X.here C.1 rfl (hb C.2.2.2.1 hd) rfl k) H
theorem WP.lmul {x : Int64} {y : Int64} (hd : decode B.bytes pc = .ok (.lmul, 1)) (hp : pc + 1 = pc') (H : WP l B Z n0 Q h cs sl pc' ls (.long (x * y) :: st)) : WP l B Z n0 Q h cs sl pc ls (.long y :: .long x :: st) := by
  subst hp; exact WP.step (fun p e s m args below meth c T L C X hT target k => XS.lmul X.here C.1 rfl (hb C.2.2.2.1 hd) rfl k) H
theorem WP.land {x : Int64} {y : Int64} (hd : decode B.bytes pc = .ok (.land, 1)) (hp : pc + 1 = pc') (H : WP l B Z n0 Q h cs sl pc' ls (.long (x &&& y) :: st)) : WP l B Z n0 Q h cs sl pc ls (.long y :: .long x :: st) := by
  subst hp; exact WP.step (fun p e s m args below meth c T L C X hT target k => XS.land X.here C.1 rfl (hb C.2.2.2.1 hd) rfl k) H
theorem WP.lor {x : Int64} {y : Int64} (hd : decode B.bytes pc = .ok (.lor, 1)) (hp : pc + 1 = pc') (H : WP l B Z n0 Q h cs sl pc' ls (.long (x ||| y) :: st)) : WP l B Z n0 Q h cs sl pc ls (.long y :: .long x :: st) := by
  subst hp; exact WP.step (fun p e s m args below meth c T L C X hT target k => XS.lor X.here C.1 rfl (hb C.2.2.2.1 hd) rfl k) H
theorem WP.lxor {x : Int64} {y : Int64} (hd : decode B.bytes pc = .ok (.lxor, 1)) (hp : pc + 1 = pc') (H : WP l B Z n0 Q h cs sl pc' ls (.long (x ^^^ y) :: st)) : WP l B Z n0 Q h cs sl pc ls (.long y :: .long x :: st) := by
  subst hp; exact WP.step (fun p e s m args below meth c T L C X hT target k => XS.lxor X.here C.1 rfl (hb C.2.2.2.1 hd) rfl k) H
theorem WP.ishl {x : Int32} {y : Int32} (hd : decode B.bytes pc = .ok (.ishl, 1)) (hp : pc + 1 = pc') (H : WP l B Z n0 Q h cs sl pc' ls (.int (x <<< (y &&& 31)) :: st)) : WP l B Z n0 Q h cs sl pc ls (.int y :: .int x :: st) := by
  subst hp; exact WP.step (fun p e s m args below meth c T L C X hT target k => XS.ishl X.here C.1 rfl (hb C.2.2.2.1 hd) rfl k) H
theorem WP.ishr {x : Int32} {y : Int32} (hd : decode B.bytes pc = .ok (.ishr, 1)) (hp : pc + 1 = pc') (H : WP l B Z n0 Q h cs sl pc' ls (.int (x >>> (y &&& 31)) :: st)) : WP l B Z n0 Q h cs sl pc ls (.int y :: .int x :: st) := by
  subst hp; exact WP.step (fun p e s m args below meth c T L C X hT target k => XS.ishr X.here C.1 rfl (hb C.2.2.2.1 hd) rfl k) H
theorem WP.iushr {x : Int32} {y : Int32} (hd : decode B.bytes pc = .ok (.iushr, 1)) (hp : pc + 1 = pc') (H : WP l B Z n0 Q h cs sl pc' ls (.int (ushr x y) :: st)) : WP l B Z n0 Q h cs sl pc ls (.int y :: .int x :: st) := by
  subst hp; exact WP.step (fun p e s m args below meth c T L C X hT target k => XS.iushr X.here C.1 rfl (hb C.2.2.2.1 hd) rfl k) H
theorem WP.lshl {x : Int64} {y : Int32} (hd : decode B.bytes pc = .ok (.lshl, 1)) (hp : pc + 1 = pc') (H : WP l B Z n0 Q h cs sl pc' ls (.long (x <<< (y &&& 63).toInt64) :: st)) : WP l B Z n0 Q h cs sl pc ls (.int y :: .long x :: st) := by
  subst hp; exact WP.step (fun p e s m args below meth c T L C X hT target k => XS.lshl X.here C.1 rfl (hb C.2.2.2.1 hd) rfl k) H
theorem WP.lshr {x : Int64} {y : Int32} (hd : decode B.bytes pc = .ok (.lshr, 1)) (hp : pc + 1 = pc') (H : WP l B Z n0 Q h cs sl pc' ls (.long (x >>> (y &&& 63).toInt64) :: st)) : WP l B Z n0 Q h cs sl pc ls (.int y :: .long x :: st) := by
  subst hp; exact WP.step (fun p e s m args below meth c T L C X hT target k => XS.lshr X.here C.1 rfl (hb C.2.2.2.1 hd) rfl k) H
theorem WP.lushr {x : Int64} {y : Int32} (hd : decode B.bytes pc = .ok (.lushr, 1)) (hp : pc + 1 = pc') (H : WP l B Z n0 Q h cs sl pc' ls (.long (ushrL x y) :: st)) : WP l B Z n0 Q h cs sl pc ls (.int y :: .long x :: st) := by
  subst hp; exact WP.step (fun p e s m args below meth c T L C X hT target k => XS.lushr X.here C.1 rfl (hb C.2.2.2.1 hd) rfl k) H
theorem WP.ineg {x : Int32}  (hd : decode B.bytes pc = .ok (.ineg, 1)) (hp : pc + 1 = pc') (H : WP l B Z n0 Q h cs sl pc' ls (.int (-x) :: st)) : WP l B Z n0 Q h cs sl pc ls (.int x :: st) := by
  subst hp; exact WP.step (fun p e s m args below meth c T L C X hT target k => XS.ineg X.here C.1 rfl (hb C.2.2.2.1 hd) rfl k) H
theorem WP.lneg {x : Int64}  (hd : decode B.bytes pc = .ok (.lneg, 1)) (hp : pc + 1 = pc') (H : WP l B Z n0 Q h cs sl pc' ls (.long (-x) :: st)) : WP l B Z n0 Q h cs sl pc ls (.long x :: st) := by
  subst hp; exact WP.step (fun p e s m args below meth c T L C X hT target k => XS.lneg X.here C.1 rfl (hb C.2.2.2.1 hd) rfl k) H
theorem WP.i2l {x : Int32}  (hd : decode B.bytes pc = .ok (.i2l, 1)) (hp : pc + 1 = pc') (H : WP l B Z n0 Q h cs sl pc' ls (.long x.toInt64 :: st)) : WP l B Z n0 Q h cs sl pc ls (.int x :: st) := by
  subst hp; exact WP.step (fun p e s m args below meth c T L C X hT target k => XS.i2l X.here C.1 rfl (hb C.2.2.2.1 hd) rfl k) H
theorem WP.l2i {x : Int64}  (hd : decode B.bytes pc = .ok (.l2i, 1)) (hp : pc + 1 = pc') (H : WP l B Z n0 Q h cs sl pc' ls (.int x.toInt32 :: st)) : WP l B Z n0 Q h cs sl pc ls (.long x :: st) := by
  subst hp; exact WP.step (fun p e s m args below meth c T L C X hT target k => XS.l2i X.here C.1 rfl (hb C.2.2.2.1 hd) rfl k) H
theorem WP.i2b {x : Int32}  (hd : decode B.bytes pc = .ok (.i2b, 1)) (hp : pc + 1 = pc') (H : WP l B Z n0 Q h cs sl pc' ls (.int x.toInt8.toInt32 :: st)) : WP l B Z n0 Q h cs sl pc ls (.int x :: st) := by
  subst hp; exact WP.step (fun p e s m args below meth c T L C X hT target k => XS.i2b X.here C.1 rfl (hb C.2.2.2.1 hd) rfl k) H
theorem WP.i2s {x : Int32}  (hd : decode B.bytes pc = .ok (.i2s, 1)) (hp : pc + 1 = pc') (H : WP l B Z n0 Q h cs sl pc' ls (.int x.toInt16.toInt32 :: st)) : WP l B Z n0 Q h cs sl pc ls (.int x :: st) := by
  subst hp; exact WP.step (fun p e s m args below meth c T L C X hT target k => XS.i2s X.here C.1 rfl (hb C.2.2.2.1 hd) rfl k) H
theorem WP.i2c {x : Int32}  (hd : decode B.bytes pc = .ok (.i2c, 1)) (hp : pc + 1 = pc') (H : WP l B Z n0 Q h cs sl pc' ls (.int x.toUInt32.toUInt16.toUInt32.toInt32 :: st)) : WP l B Z n0 Q h cs sl pc ls (.int x :: st) := by
  subst hp; exact WP.step (fun p e s m args below meth c T L C X hT target k => XS.i2c X.here C.1 rfl (hb C.2.2.2.1 hd) rfl k) H
/-! division (never by zero here), branches -/
theorem WP.irem {x y : Int32} (hd : decode B.bytes pc = .ok (.irem, 1)) (hy : y ≠ 0) (hp : pc + 1 = pc') (H : WP l B Z n0 Q h cs sl pc' ls (.int (x % y) :: st)) : WP l B Z n0 Q h cs sl pc ls (.int y :: .int x :: st) := by
  subst hp; exact WP.step (fun p e s m args below meth c T L C X hT target k => iremM X C.1 rfl (hb C.2.2.2.1 hd) rfl hy k) H
theorem WP.idiv {x y : Int32} (hd : decode B.bytes pc = .ok (.idiv, 1)) (hy : y ≠ 0) (hp : pc + 1 = pc') (H : WP l B Z n0 Q h cs sl pc' ls (.int (x / y) :: st)) : WP l B Z n0 Q h cs sl pc ls (.int y :: .int x :: st) := by
  subst hp; exact WP.step (fun p e s m args below meth c T L C X hT target k => XS.idiv X.here C.1 rfl (hb C.2.2.2.1 hd) rfl hy k) H
theorem WP.lrem {x y : Int64} (hd : decode B.bytes pc = .ok (.lrem, 1)) (hy : y ≠ 0) (hp : pc + 1 = pc') (H : WP l B Z n0 Q h cs sl pc' ls (.long (x - x / y * y) :: st)) : WP l B Z n0 Q h cs sl pc ls (.long y :: .long x :: st) := by
  subst hp; exact WP.step (fun p e s m args below meth c T L C X hT target k => XS.lrem X.here C.1 rfl (hb C.2.2.2.1 hd) rfl hy k) H
theorem WP.goto {o : Int} (hd : decode B.bytes pc = .ok (.goto o, 3)) (ht : (pc : Int) + o = (pc' : Int)) (H : WP l B Z n0 Q h cs sl pc' ls st) : WP l B Z n0 Q h cs sl pc ls st :=
  WP.step (fun p e s m args below meth c T L C X hT target k => XS.goto X.here C.1 rfl (pc0 := pc) (pc' := pc') rfl (hb C.2.2.2.1 hd) (by omega) (by omega) k) H
theorem own_holds (cd : ClassFile.Cond) (x y : Int32) : if_icmp.holds cd x y = match cd with | .eq => decide (x.toInt = y.toInt) | .ne => decide (x.toInt ≠ y.toInt) | .lt => decide (x.toInt < y.toInt) | .ge => decide (y.toInt ≤ x.toInt) | .gt => decide (y.toInt < x.toInt) | .le => decide (x.toInt ≤ y.toInt) := by
  have q : x = y ↔ x.toInt = y.toInt := ⟨fun h => by rw [h], Int32.toInt_inj.mp⟩
  by_cases e : x = y
  · subst e
    cases cd <;> simp [if_icmp.holds]
  · have e' : ¬ x.toInt = y.toInt := fun h => e (q.mpr h)
    cases cd <;> simp [if_icmp.holds, e, e', Int32.lt_iff_toInt_lt, Int32.le_iff_toInt_le]
theorem own_cmpL (cd : ClassFile.Cond) (x y : Int64) : if_icmp.holds cd (cmpL x y) 0 = match cd with | .eq => decide (x.toInt = y.toInt) | .ne => decide (x.toInt ≠ y.toInt) | .lt => decide (x.toInt < y.toInt) | .ge => decide (y.toInt ≤ x.toInt) | .gt => decide (y.toInt < x.toInt) | .le => decide (x.toInt ≤ y.toInt) := by
  have q : x = y ↔ x.toInt = y.toInt := ⟨fun h => by rw [h], Int64.toInt_inj.mp⟩
  rw [own_holds]
  simp only [cmpL, GT.gt, Int64.lt_iff_toInt_lt, q]
  have e1 : (1 : Int32).toInt = 1 := rfl
  have e0 : (0 : Int32).toInt = 0 := rfl
  have em : (-1 : Int32).toInt = -1 := rfl
  by_cases c1 : y.toInt < x.toInt
  · simp only [c1, if_true, e1, e0]
    cases cd <;> simp <;> omega
  · by_cases c2 : x.toInt = y.toInt
    · simp only [c2, Int.lt_irrefl, if_false, if_true, e0]
      cases cd <;> simp
    · simp only [c1, c2, if_false, em, e0]
      cases cd <;> simp <;> omega
theorem WP.icmp {cd : ClassFile.Cond} {x y : Int32} {o : Int} {tgt : Nat} (hd : decode B.bytes pc = .ok (.if_icmp cd o, 3)) (ht : (pc : Int) + o = (tgt : Int)) (hp : pc + 3 = pc') (HY : if_icmp.holds cd x y = true → WP l B Z n0 Q h cs sl tgt ls st) (HN : if_icmp.holds cd x y = false → WP l B Z n0 Q h cs sl pc' ls st) : WP l B Z n0 Q h cs sl pc ls (.int y :: .int x :: st) := by
  subst hp
  cases hc : if_icmp.holds cd x y
  · exact WP.step (fun p e s m args below meth c T L C X hT target k => XS.icmpNo X.here C.1 rfl (hb C.2.2.2.1 hd) rfl hc k) (HN hc)
  · exact WP.step (fun p e s m args below meth c T L C X hT target k => XS.icmpYes X.here C.1 rfl (pc0 := pc) (pc' := tgt) rfl (hb C.2.2.2.1 hd) rfl hc (by omega) (by omega) k) (HY hc)
theorem WP.ifc {cd : ClassFile.Cond} {x : Int32} {o : Int} {tgt : Nat} (hd : decode B.bytes pc = .ok (.ifCond cd o, 3)) (ht : (pc : Int) + o = (tgt : Int)) (hp : pc + 3 = pc') (HY : if_icmp.holds cd x 0 = true → WP l B Z n0 Q h cs sl tgt ls st) (HN : if_icmp.holds cd x 0 = false → WP l B Z n0 Q h cs sl pc' ls st) : WP l B Z n0 Q h cs sl pc ls (.int x :: st) := by
  subst hp
  cases hc : if_icmp.holds cd x 0
  · exact WP.step (fun p e s m args below meth c T L C X hT target k => XS.ifNo X.here C.1 rfl (hb C.2.2.2.1 hd) rfl ((if0 _ _).trans hc) k) (HN hc)
  · exact WP.step (fun p e s m args below meth c T L C X hT target k => XS.ifYes X.here C.1 rfl (pc0 := pc) (pc' := tgt) rfl (hb C.2.2.2.1 hd) rfl ((if0 _ _).trans hc) (by omega) (by omega) k) (HY hc)
theorem WP.lcmp {x y : Int64} (hd : decode B.bytes pc = .ok (.lcmp, 1)) (hp : pc + 1 = pc') (H : WP l B Z n0 Q h cs sl pc' ls (.int (cmpL x y) :: st)) : WP l B Z n0 Q h cs sl pc ls (.long y :: .long x :: st) := by
  subst hp; exact WP.step (fun p e s m args below meth c T L C X hT target k => XS.lcmp X.here C.1 rfl (hb C.2.2.2.1 hd) rfl k) H
theorem WP.icmpEq {x y : Int32} {o : Int} {tgt : Nat} (hd : decode B.bytes pc = .ok (.if_icmp .eq o, 3)) (ht : (pc : Int) + o = (tgt : Int)) (hp : pc + 3 = pc') (HY : x.toInt = y.toInt → WP l B Z n0 Q h cs sl tgt ls st) (HN : x.toInt ≠ y.toInt → WP l B Z n0 Q h cs sl pc' ls st) : WP l B Z n0 Q h cs sl pc ls (.int y :: .int x :: st) :=
  WP.icmp hd ht hp (fun q => HY (by rw [own_holds] at q; simpa using q)) (fun q => HN (by rw [own_holds] at q; simpa using q))
theorem WP.ifEq {x : Int32} {o : Int} {tgt : Nat} (hd : decode B.bytes pc = .ok (.ifCond .eq o, 3)) (ht : (pc : Int) + o = (tgt : Int)) (hp : pc + 3 = pc') (HY : x.toInt = 0 → WP l B Z n0 Q h cs sl tgt ls st) (HN : x.toInt ≠ 0 → WP l B Z n0 Q h cs sl pc' ls st) : WP l B Z n0 Q h cs sl pc ls (.int x :: st) :=
  WP.ifc hd ht hp (fun q => HY (by rw [own_holds] at q; simpa using q)) (fun q => HN (by rw [own_holds] at q; simpa using q))
theorem WP.lcmpEq {x y : Int64} {o : Int} {tgt pc1 : Nat} (hd : decode B.bytes pc = .ok (.lcmp, 1)) (h1 : pc + 1 = pc1) (hd1 : decode B.bytes pc1 = .ok (.ifCond .eq o, 3)) (ht : (pc1 : Int) + o = (tgt : Int)) (hp : pc1 + 3 = pc') (HY : x.toInt = y.toInt → WP l B Z n0 Q h cs sl tgt ls st) (HN : x.toInt ≠ y.toInt → WP l B Z n0 Q h cs sl pc' ls st) : WP l B Z n0 Q h cs sl pc ls (.long y :: .long x :: st) :=
  WP.lcmp hd h1 (WP.ifc hd1 ht hp (fun q => HY (by rw [own_cmpL] at q; simpa using q)) (fun q => HN (by rw [own_cmpL] at q; simpa using q)))
theorem WP.icmpNe {x y : Int32} {o : Int} {tgt : Nat} (hd : decode B.bytes pc = .ok (.if_icmp .ne o, 3)) (ht : (pc : Int) + o = (tgt : Int)) (hp : pc + 3 = pc') (HY : x.toInt ≠ y.toInt → WP l B Z n0 Q h cs sl tgt ls st) (HN : x.toInt = y.toInt → WP l B Z n0 Q h cs sl pc' ls st) : WP l B Z n0 Q h cs sl pc ls (.int y :: .int x :: st) :=
  WP.icmp hd ht hp (fun q => HY (by rw [own_holds] at q; simpa using q)) (fun q => HN (by rw [own_holds] at q; simpa using q))
theorem WP.ifNe {x : Int32} {o : Int} {tgt : Nat} (hd : decode B.bytes pc = .ok (.ifCond .ne o, 3)) (ht : (pc : Int) + o = (tgt : Int)) (hp : pc + 3 = pc') (HY : x.toInt ≠ 0 → WP l B Z n0 Q h cs sl tgt ls st) (HN : x.toInt = 0 → WP l B Z n0 Q h cs sl pc' ls st) : WP l B Z n0 Q h cs sl pc ls (.int x :: st) :=
  WP.ifc hd ht hp (fun q => HY (by rw [own_holds] at q; simpa using q)) (fun q => HN (by rw [own_holds] at q; simpa using q))
theorem WP.lcmpNe {x y : Int64} {o : Int} {tgt pc1 : Nat} (hd : decode B.bytes pc = .ok (.lcmp, 1)) (h1 : pc + 1 = pc1) (hd1 : decode B.bytes pc1 = .ok (.ifCond .ne o, 3)) (ht : (pc1 : Int) + o = (tgt : Int)) (hp : pc1 + 3 = pc') (HY : x.toInt ≠ y.toInt → WP l B Z n0 Q h cs sl tgt ls st) (HN : x.toInt = y.toInt → WP l B Z n0 Q h cs sl pc' ls st) : WP l B Z n0 Q h cs sl pc ls (.long y :: .long x :: st) :=
  WP.lcmp hd h1 (WP.ifc hd1 ht hp (fun q => HY (by rw [own_cmpL] at q; simpa using q)) (fun q => HN (by rw [own_cmpL] at q; simpa using q)))
theorem WP.icmpLt {x y : Int32} {o : Int} {tgt : Nat} (hd : decode B.bytes pc = .ok (.if_icmp .lt o, 3)) (ht : (pc : Int) + o = (tgt : Int)) (hp : pc + 3 = pc') (HY : x.toInt < y.toInt → WP l B Z n0 Q h cs sl tgt ls st) (HN : y.toInt ≤ x.toInt → WP l B Z n0 Q h cs sl pc' ls st) : WP l B Z n0 Q h cs sl pc ls (.int y :: .int x :: st) :=
  WP.icmp hd ht hp (fun q => HY (by rw [own_holds] at q; simpa using q)) (fun q => HN (by rw [own_holds] at q; simpa using q))
theorem WP.ifLt {x : Int32} {o : Int} {tgt : Nat} (hd : decode B.bytes pc = .ok (.ifCond .lt o, 3)) (ht : (pc : Int) + o = (tgt : Int)) (hp : pc + 3 = pc') (HY : x.toInt < 0 → WP l B Z n0 Q h cs sl tgt ls st) (HN : 0 ≤ x.toInt → WP l B Z n0 Q h cs sl pc' ls st) : WP l B Z n0 Q h cs sl pc ls (.int x :: st) :=
  WP.ifc hd ht hp (fun q => HY (by rw [own_holds] at q; simpa using q)) (fun q => HN (by rw [own_holds] at q; simpa using q))
theorem WP.lcmpLt {x y : Int64} {o : Int} {tgt pc1 : Nat} (hd : decode B.bytes pc = .ok (.lcmp, 1)) (h1 : pc + 1 = pc1) (hd1 : decode B.bytes pc1 = .ok (.ifCond .lt o, 3)) (ht : (pc1 : Int) + o = (tgt : Int)) (hp : pc1 + 3 = pc') (HY : x.toInt < y.toInt → WP l B Z n0 Q h cs sl tgt ls st) (HN : y.toInt ≤ x.toInt → WP l B Z n0 Q h cs sl pc' ls st) : WP l B Z n0 Q h cs sl pc ls (.long y :: .long x :: st) :=
  WP.lcmp hd h1 (WP.ifc hd1 ht hp (fun q => HY (by rw [own_cmpL] at q; simpa using q)) (fun q => HN (by rw [own_cmpL] at q; simpa using q)))
theorem WP.icmpGe {x y : Int32} {o : Int} {tgt : Nat} (hd : decode B.bytes pc = .ok (.if_icmp .ge o, 3)) (ht : (pc : Int) + o = (tgt : Int)) (hp : pc + 3 = pc') (HY : y.toInt ≤ x.toInt → WP l B Z n0 Q h cs sl tgt ls st) (HN : x.toInt < y.toInt → WP l B Z n0 Q h cs sl pc' ls st) : WP l B Z n0 Q h cs sl pc ls (.int y :: .int x :: st) :=
  WP.icmp hd ht hp (fun q => HY (by rw [own_holds] at q; simpa using q)) (fun q => HN (by rw [own_holds] at q; simpa using q))
theorem WP.ifGe {x : Int32} {o : Int} {tgt : Nat} (hd : decode B.bytes pc = .ok (.ifCond .ge o, 3)) (ht : (pc : Int) + o = (tgt : Int)) (hp : pc + 3 = pc') (HY : 0 ≤ x.toInt → WP l B Z n0 Q h cs sl tgt ls st) (HN : x.toInt < 0 → WP l B Z n0 Q h cs sl pc' ls st) : WP l B Z n0 Q h cs sl pc ls (.int x :: st) :=
  WP.ifc hd ht hp (fun q => HY (by rw [own_holds] at q; simpa using q)) (fun q => HN (by rw [own_holds] at q; simpa using q))
theorem WP.lcmpGe {x y : Int64} {o : Int} {tgt pc1 : Nat} (hd : decode B.bytes pc = .ok (.lcmp, 1)) (h1 : pc + 1 = pc1) (hd1 : decode B.bytes pc1 = .ok (.ifCond .ge o, 3)) (ht : (pc1 : Int) + o = (tgt : Int)) (hp : pc1 + 3 = pc') (HY : y.toInt ≤ x.toInt → WP l B Z n0 Q h cs sl tgt ls st) (HN : x.toInt < y.toInt → WP l B Z n0 Q h cs sl pc' ls st) : WP l B Z n0 Q h cs sl pc ls (.long y :: .long x :: st) :=
  WP.lcmp hd h1 (WP.ifc hd1 ht hp (fun q => HY (by rw [own_cmpL] at q; simpa using q)) (fun q => HN (by rw [own_cmpL] at q; simpa using q)))
theorem WP.icmpGt {x y : Int32} {o : Int} {tgt : Nat} (hd : decode B.bytes pc = .ok (.if_icmp .gt o, 3)) (ht : (pc : Int) + o = (tgt : Int)) (hp : pc + 3 = pc') (HY : y.toInt < x.toInt → WP l B Z n0 Q h cs sl tgt ls st) (HN : x.toInt ≤ y.toInt → WP l B Z n0 Q h cs sl pc' ls st) : WP l B Z n0 Q h cs sl pc ls (.int y :: .int x :: st) :=
  WP.icmp hd ht hp (fun q => HY (by rw [own_holds] at q; simpa using q)) (fun q => HN (by rw [own_holds] at q; simpa using q))
theorem WP.ifGt {x : Int32} {o : Int} {tgt : Nat} (hd : decode B.bytes pc = .ok (.ifCond .gt o, 3)) (ht : (pc : Int) + o = (tgt : Int)) (hp : pc + 3 = pc') (HY : 0 < x.toInt → WP l B Z n0 Q h cs sl tgt ls st) (HN : x.toInt ≤ 0 → WP l B Z n0 Q h cs sl pc' ls st) : WP l B Z n0 Q h cs sl pc ls (.int x :: st) :=
  WP.ifc hd ht hp (fun q => HY (by rw [own_holds] at q; simpa using q)) (fun q => HN (by rw [own_holds] at q; simpa using q))
theorem WP.lcmpGt {x y : Int64} {o : Int} {tgt pc1 : Nat} (hd : decode B.bytes pc = .ok (.lcmp, 1)) (h1 : pc + 1 = pc1) (hd1 : decode B.bytes pc1 = .ok (.ifCond .gt o, 3)) (ht : (pc1 : Int) + o = (tgt : Int)) (hp : pc1 + 3 = pc') (HY : y.toInt < x.toInt → WP l B Z n0 Q h cs sl tgt ls st) (HN : x.toInt ≤ y.toInt → WP l B Z n0 Q h cs sl pc' ls st) : WP l B Z n0 Q h cs sl pc ls (.long y :: .long x :: st) :=
  WP.lcmp hd h1 (WP.ifc hd1 ht hp (fun q => HY (by rw [own_cmpL] at q; simpa using q)) (fun q => HN (by rw [own_cmpL] at q; simpa using q)))
theorem WP.icmpLe {x y : Int32} {o : Int} {tgt : Nat} (hd : decode B.bytes pc = .ok (.if_icmp .le o, 3)) (ht : (pc : Int) + o = (tgt : Int)) (hp : pc + 3 = pc') (HY : x.toInt ≤ y.toInt → WP l B Z n0 Q h cs sl tgt ls st) (HN : y.toInt < x.toInt → WP l B Z n0 Q h cs sl pc' ls st) : WP l B Z n0 Q h cs sl pc ls (.int y :: .int x :: st) :=
  WP.icmp hd ht hp (fun q => HY (by rw [own_holds] at q; simpa using q)) (fun q => HN (by rw [own_holds] at q; simpa using q))
theorem WP.ifLe {x : Int32} {o : Int} {tgt : Nat} (hd : decode B.bytes pc = .ok (.ifCond .le o, 3)) (ht : (pc : Int) + o = (tgt : Int)) (hp : pc + 3 = pc') (HY : x.toInt ≤ 0 → WP l B Z n0 Q h cs sl tgt ls st) (HN : 0 < x.toInt → WP l B Z n0 Q h cs sl pc' ls st) : WP l B Z n0 Q h cs sl pc ls (.int x :: st) :=
  WP.ifc hd ht hp (fun q => HY (by rw [own_holds] at q; simpa using q)) (fun q => HN (by rw [own_holds] at q; simpa using q))
theorem WP.lcmpLe {x y : Int64} {o : Int} {tgt pc1 : Nat} (hd : decode B.bytes pc = .ok (.lcmp, 1)) (h1 : pc + 1 = pc1) (hd1 : decode B.bytes pc1 = .ok (.ifCond .le o, 3)) (ht : (pc1 : Int) + o = (tgt : Int)) (hp : pc1 + 3 = pc') (HY : x.toInt ≤ y.toInt → WP l B Z n0 Q h cs sl tgt ls st) (HN : y.toInt < x.toInt → WP l B Z n0 Q h cs sl pc' ls st) : WP l B Z n0 Q h cs sl pc ls (.long y :: .long x :: st) :=
  WP.lcmp hd h1 (WP.ifc hd1 ht hp (fun q => HY (by rw [own_cmpL] at q; simpa using q)) (fun q => HN (by rw [own_cmpL] at q; simpa using q)))
theorem WP.ifnullY {o : Int} (hd : decode B.bytes pc = .ok (.ifnull o, 3)) (ht : (pc : Int) + o = (pc' : Int)) (H : WP l B Z n0 Q h cs sl pc' ls st) : WP l B Z n0 Q h cs sl pc ls (.null :: st) :=
  WP.step (fun p e s m args below meth c T L C X hT target k => XS.ifnullYes X.here C.1 rfl (pc0 := pc) (pc' := pc') rfl (hb C.2.2.2.1 hd) rfl (by omega) (by omega) k) H
theorem WP.ifnullN {o : Int} {a : Addr} (hd : decode B.bytes pc = .ok (.ifnull o, 3)) (hp : pc + 3 = pc') (H : WP l B Z n0 Q h cs sl pc' ls st) : WP l B Z n0 Q h cs sl pc ls (.ref a :: st) := by
  subst hp; exact WP.step (fun p e s m args below meth c T L C X hT target k => XS.ifnullNo X.here C.1 rfl (hb C.2.2.2.1 hd) rfl k) H
theorem WP.ifnonnullN {o : Int} (hd : decode B.bytes pc = .ok (.ifnonnull o, 3)) (hp : pc + 3 = pc') (H : WP l B Z n0 Q h cs sl pc' ls st) : WP l B Z n0 Q h cs sl pc ls (.null :: st) := by
  subst hp; exact WP.step (fun p e s m args below meth c T L C X hT target k => XS.ifnonnullNo X.here C.1 rfl (hb C.2.2.2.1 hd) rfl k) H
theorem WP.ifnonnullY {o : Int} {a : Addr} (hd : decode B.bytes pc = .ok (.ifnonnull o, 3)) (ht : (pc : Int) + o = (pc' : Int)) (H : WP l B Z n0 Q h cs sl pc' ls st) : WP l B Z n0 Q h cs sl pc ls (.ref a :: st) :=
  WP.step (fun p e s m args below meth c T L C X hT target k => XS.ifnonnullYes X.here C.1 rfl (pc0 := pc) (pc' := pc') rfl (hb C.2.2.2.1 hd) rfl (by omega) (by omega) k) H
theorem WP.acmpEq {x y : Value} {o : Int} {tgt : Nat} (hd : decode B.bytes pc = .ok (.if_acmp .eq o, 3)) (ht : (pc : Int) + o = (tgt : Int)) (hp : pc + 3 = pc') (h1 : x.isRef = true) (h2 : y.isRef = true) (HY : x = y → WP l B Z n0 Q h cs sl tgt ls st) (HN : x ≠ y → WP l B Z n0 Q h cs sl pc' ls st) : WP l B Z n0 Q h cs sl pc ls (y :: x :: st) := by
  subst hp
  have e1 : ((pc : Int) + o).toNat = tgt := by omega
  by_cases q : x = y
  · exact WP.step (fun p e s m args below meth c T L C X hT target k => Jvm.RoadKit.acmp (g := mkF m pc ls (y :: x :: st)) X C.1 rfl h1 h2 (pc0 := pc) (pc' := tgt) (same := true) rfl (hb C.2.2.2.1 hd) rfl (by simp [q]) (by omega) (by simp [acV, e1]) k) (HY q)
  · exact WP.step (fun p e s m args below meth c T L C X hT target k => Jvm.RoadKit.acmp (g := mkF m pc ls (y :: x :: st)) X C.1 rfl h1 h2 (pc0 := pc) (pc' := pc + 3) (same := false) rfl (hb C.2.2.2.1 hd) rfl (by simp [q]) (by omega) (by simp [acV]) k) (HN q)
theorem WP.acmpNe {x y : Value} {o : Int} {tgt : Nat} (hd : decode B.bytes pc = .ok (.if_acmp .ne o, 3)) (ht : (pc : Int) + o = (tgt : Int)) (hp : pc + 3 = pc') (h1 : x.isRef = true) (h2 : y.isRef = true) (HY : x ≠ y → WP l B Z n0 Q h cs sl tgt ls st) (HN : x = y → WP l B Z n0 Q h cs sl pc' ls st) : WP l B Z n0 Q h cs sl pc ls (y :: x :: st) := by
  subst hp
  have e1 : ((pc : Int) + o).toNat = tgt := by omega
  by_cases q : x = y
  · exact WP.step (fun p e s m args below meth c T L C X hT target k => Jvm.RoadKit.acmp (g := mkF m pc ls (y :: x :: st)) X C.1 rfl h1 h2 (pc0 := pc) (pc' := pc + 3) (same := true) rfl (hb C.2.2.2.1 hd) rfl (by simp [q]) (by omega) (by simp [acV]) k) (HN q)
  · exact WP.step (fun p e s m args below meth c T L C X hT target k => Jvm.RoadKit.acmp (g := mkF m pc ls (y :: x :: st)) X C.1 rfl h1 h2 (pc0 := pc) (pc' := tgt) (same := false) rfl (hb C.2.2.2.1 hd) rfl (by simp [q]) (by omega) (by simp [acV, e1]) k) (HY q)
/-! returns -/
theorem WP.ret0 (hd : decode B.bytes pc = .ok (.return_, 1)) (hr : B.ret = none) (hc : cs ≤ B.room.cells) (hs : sl ≤ B.room.slots) (hQ : Q none h) : WP l B Z n0 Q h cs sl pc ls [] := by
  intro p e s m args below meth c T L C X hT N hn
  obtain ⟨hx, hZ, hown, hby, hml, hret, hlk, hnm⟩ := C
  obtain ⟨fs, hrr, hrun, hended, hW, hsame⟩ := X.leave (v := none) (fun _ => rfl) hlk
  have hh : (T.setFrames fs).heap = h := hT
  exact ⟨T.setFrames fs, none, L, X.returnOut hx (hret.trans hr) (hb hby hd) hrr, hrun, hended, by rw [hh]; exact hQ, N, by rw [hh]; exact hn, ⟨_, rfl⟩, hW, hsame.mono hc hs⟩
theorem WP.retI {z : Int32} (hd : decode B.bytes pc = .ok (.ireturn, 1)) (hr : B.ret = some .int) (hc : cs ≤ B.room.cells) (hs : sl ≤ B.room.slots) (hQ : Q (some (.int z)) h) : WP l B Z n0 Q h cs sl pc ls (.int z :: st) := by
  intro p e s m args below meth c T L C X hT N hn
  obtain ⟨hx, hZ, hown, hby, hml, hret, hlk, hnm⟩ := C
  obtain ⟨fs, hrr, hrun, hended, hW, hsame⟩ := X.leave (v := some (.int z)) (fun q => by rw [hret, hr] at q; cases q) hlk
  have hh : (T.setFrames fs).heap = h := hT
  exact ⟨T.setFrames fs, _, L, retOut X hx (hret.trans hr) rfl (Or.inl ⟨rfl, Or.inl rfl, z, rfl⟩) (hb hby hd) hrr, hrun, hended, by rw [hh]; exact hQ, N, by rw [hh]; exact hn, ⟨_, rfl⟩, hW, hsame.mono hc hs⟩
theorem WP.retN {z : Int32} {t : FieldType} (hd : decode B.bytes pc = .ok (.ireturn, 1)) (hr : B.ret = some t) (ht : t = .boolean ∨ t = .byte ∨ t = .char ∨ t = .short) (hc : cs ≤ B.room.cells) (hs : sl ≤ B.room.slots) (hQ : Q (some (.int (nar t z))) h) : WP l B Z n0 Q h cs sl pc ls (.int z :: st) := by
  intro p e s m args below meth c T L C X hT N hn
  obtain ⟨hx, hZ, hown, hby, hml, hret, hlk, hnm⟩ := C
  obtain ⟨fs, hrr, hrun, hended, hW, hsame⟩ := X.leave (v := some (.int (nar t z))) (fun q => by rw [hret, hr] at q; cases q) hlk
  have hh : (T.setFrames fs).heap = h := hT
  exact ⟨T.setFrames fs, _, L, Jvm.RoadKit.retN X hx (hret.trans hr) ht (hb hby hd) hrr, hrun, hended, by rw [hh]; exact hQ, N, by rw [hh]; exact hn, ⟨_, rfl⟩, hW, hsame.mono hc hs⟩
theorem WP.retJ {z : Int64} (hd : decode B.bytes pc = .ok (.lreturn, 1)) (hr : B.ret = some .long) (hc : cs ≤ B.room.cells) (hs : sl ≤ B.room.slots) (hQ : Q (some (.long z)) h) : WP l B Z n0 Q h cs sl pc ls (.long z :: st) := by
  intro p e s m args below meth c T L C X hT N hn
  obtain ⟨hx, hZ, hown, hby, hml, hret, hlk, hnm⟩ := C
  obtain ⟨fs, hrr, hrun, hended, hW, hsame⟩ := X.leave (v := some (.long z)) (fun q => by rw [hret, hr] at q; cases q) hlk
  have hh : (T.setFrames fs).heap = h := hT
  exact ⟨T.setFrames fs, _, L, retOut X hx (hret.trans hr) rfl (Or.inr (Or.inl ⟨rfl, rfl, z, rfl⟩)) (hb hby hd) hrr, hrun, hended, by rw [hh]; exact hQ, N, by rw [hh]; exact hn, ⟨_, rfl⟩, hW, hsame.mono hc hs⟩
theorem WP.retA {z : Value} {t : FieldType} (hd : decode B.bytes pc = .ok (.areturn, 1)) (hr : B.ret = some t) (ht : t.isReference = true) (hz : z.isRef = true) (hc : cs ≤ B.room.cells) (hs : sl ≤ B.room.slots) (hQ : Q (some z) h) : WP l B Z n0 Q h cs sl pc ls (z :: st) := by
  intro p e s m args below meth c T L C X hT N hn
  obtain ⟨hx, hZ, hown, hby, hml, hret, hlk, hnm⟩ := C
  obtain ⟨fs, hrr, hrun, hended, hW, hsame⟩ := X.leave (v := some z) (fun q => by rw [hret, hr] at q; cases q) hlk
  have hh : (T.setFrames fs).heap = h := hT
  have hnw : narrow t z = z := by rcases ref_cases hz with rfl | ⟨a, rfl⟩ <;> cases t <;> rfl
  exact ⟨T.setFrames fs, _, L, retOut X hx (hret.trans hr) hnw (Or.inr (Or.inr (Or.inr (Or.inr ⟨rfl, ht, hz⟩)))) (hb hby hd) hrr, hrun, hended, by rw [hh]; exact hQ, N, by rw [hh]; exact hn, ⟨_, rfl⟩, hW, hsame.mono hc hs⟩
/-! calls -/
theorem WP.callS {y : MethodName} {By : Bod} {as : List Value} {idx : Nat} {Qy : Option Value → Heap → Prop} {ps : List FieldType} {r : Option FieldType}
    (hd : decode B.bytes pc = .ok (.invokestatic idx, 3)) (w1 : (Cond.methodLink B.own idx y).before a0 Z = true) (w2 : (Cond.static y).before a0 Z = true) (w3 : (Cond.initialized y.cls).before a0 Z = true) (w4 : (Cond.code y By.bytes By.maxL By.ret).before a0 Z = true)
    (hy : y.cls ≠ "java/lang/invoke/MethodHandle" ∧ y.cls ≠ "java/lang/invoke/VarHandle") (hM : OMet l y By Z n0 as.toArray h Qy) (hpd : parseMethodDescriptor y.desc = some ⟨ps, r⟩) (hlen : as.length = ps.length) (hst : st = as.reverse ++ rest) (hls : ls.size = B.maxL)
    (hfr : By.room.frames + 1 ≤ B.room.frames) (hlo : (rest.map fun v => v.category).sum + (By.maxL + 11) + By.room.locals ≤ B.room.locals) (hc : cs + By.room.cells ≤ B.room.cells) (hs : sl + By.room.slots ≤ B.room.slots) (hp : pc + 3 = pc')
    (H : ∀ v h', Qy v h' → WP l B Z n0 Q h' (cs + By.room.cells) (sl + By.room.slots) pc' ls (v.toList ++ rest)) : WP l B Z n0 Q h cs sl pc ls st := by
  subst hp
  intro p e s m args below meth c T L C X hT N hn
  obtain ⟨hx, hZ, hown, hby, hml, hret, hlk, hnm⟩ := C
  obtain ⟨v, _, ⟨T1, L1, k1, n1⟩, -, X1, ⟨Lc, hQ, l1, y1, z1⟩, stp⟩ := Jvm.LawKit.callS X hx hown (mvT hZ w1) (mvT hZ w2) (mvT hZ w3) (mvT hZ w4) hy (backOf (W := (rest.map fun v => v.category).sum) (Q := fun v h' L => Qy v h' ∧ Fr n0 L ∧ n0 ≤ h'.size) (hM hn []) hZ w4 w3 hfr hlo) (g := mkF m pc ls st) rfl (by rw [hml]; exact hls) (argsL := as) (rest := rest) (lenOf hpd hlen) hst (by show 2 * 0 + _ ≤ _; omega) (hb hby hd) (fun _ _ => ⟨rfl, hT, hc, hs⟩)
  dsimp only [Pt.U, Pt.locs, Pt.cells, Pt.slots] at X1 l1 y1 z1 stp hQ
  subst l1 y1 z1
  obtain ⟨U, v', L', a1, rr⟩ := H v T1.heap hQ.1 p e s m args below meth c T1 _ ⟨hx, hZ, hown, hby, hml, hret, hlk, hnm⟩ X1 rfl (N.app hQ.2.1) hQ.2.2
  exact ⟨U, v', L', stp _ a1, rr⟩
theorem WP.callI {y : MethodName} {By : Bod} {as : List Value} {a : Addr} {idx : Nat} {Qy : Option Value → Heap → Prop} {ps : List FieldType} {r : Option FieldType}
    (hd : decode B.bytes pc = .ok (.invokespecial idx, 3)) (w1 : (Cond.methodLink B.own idx y).before a0 Z = true) (w2 : (Cond.instanceMethod y).before a0 Z = true) (w3 : (Cond.initialized y.cls).before a0 Z = true) (w4 : (Cond.code y By.bytes By.maxL By.ret).before a0 Z = true) (hyn : y.name = "<init>") (hyr : By.ret = none)
    (hy : y.cls ≠ "java/lang/invoke/MethodHandle" ∧ y.cls ≠ "java/lang/invoke/VarHandle") (hM : OMet l y By Z n0 (.ref a :: as).toArray h Qy) (hpd : parseMethodDescriptor y.desc = some ⟨ps, r⟩) (hlen : as.length = ps.length) (hst : st = as.reverse ++ .ref a :: rest) (hls : ls.size = B.maxL)
    (hfr : By.room.frames + 1 ≤ B.room.frames) (hlo : (rest.map fun v => v.category).sum + (By.maxL + 11) + By.room.locals ≤ B.room.locals) (hc : cs + By.room.cells ≤ B.room.cells) (hs : sl + By.room.slots ≤ B.room.slots) (hp : pc + 3 = pc')
    (H : ∀ v h', Qy v h' → WP l B Z n0 Q h' (cs + By.room.cells) (sl + By.room.slots) pc' ls (v.toList ++ rest)) : WP l B Z n0 Q h cs sl pc ls st := by
  subst hp
  intro p e s m args below meth c T L C X hT N hn
  obtain ⟨hx, hZ, hown, hby, hml, hret, hlk, hnm⟩ := C
  obtain ⟨v, _, ⟨T1, L1, k1, n1⟩, -, X1, ⟨Lc, hQ, l1, y1, z1⟩, stp⟩ := X.specialBack hx (y := y) hyn hown (mvT hZ w1) (mvT hZ w2) (mvT hZ (hyr ▸ w4)) hy (backOf (W := (rest.map fun v => v.category).sum) (Q := fun v h' L => Qy v h' ∧ Fr n0 L ∧ n0 ≤ h'.size) (hM hn []) hZ w4 w3 hfr hlo) (g := mkF m pc ls st) rfl (by rw [hml]; exact hls) (Steps.refl _) (a := a) (argsL := as) (rest := rest) (lenOf hpd hlen) hst (by show 2 * 0 + _ ≤ _; omega) (hb hby hd) (fun _ _ => ⟨rfl, hT, hc, hs⟩)
  dsimp only [Pt.U, Pt.locs, Pt.cells, Pt.slots] at X1 l1 y1 z1 stp hQ
  subst l1 y1 z1
  obtain ⟨U, v', L', a1, rr⟩ := H v T1.heap hQ.1 p e s m args below meth c T1 _ ⟨hx, hZ, hown, hby, hml, hret, hlk, hnm⟩ X1 rfl (N.app hQ.2.1) hQ.2.2
  exact ⟨U, v', L', stp.trans a1, rr⟩
theorem WP.callV {y z : MethodName} {By : Bod} {Cl : String} {as : List Value} {a : Addr} {idx : Nat} {Qy : Option Value → Heap → Prop} {ps : List FieldType} {r : Option FieldType}
    (hd : decode B.bytes pc = .ok (.invokevirtual idx, 3)) (w1 : (Cond.methodLink B.own idx y).before a0 Z = true) (w2 : (Cond.declares y).before a0 Z = true) (w5 : (Cond.selects Cl y z).before a0 Z = true) (w6 : (Cond.instanceMethod z).before a0 Z = true) (w3 : (Cond.initialized z.cls).before a0 Z = true) (w4 : (Cond.code z By.bytes By.maxL By.ret).before a0 Z = true) (hyz : y = z) (hcl : Cl = y.cls)
    (hy : y.cls ≠ "java/lang/invoke/MethodHandle" ∧ y.cls ≠ "java/lang/invoke/VarHandle") (E : Exa Z h a Cl) (hM : OMet l z By Z n0 (.ref a :: as).toArray h Qy) (hpd : parseMethodDescriptor y.desc = some ⟨ps, r⟩) (hlen : as.length = ps.length) (hst : st = as.reverse ++ .ref a :: rest) (hls : ls.size = B.maxL)
    (hfr : By.room.frames + 1 ≤ B.room.frames) (hlo : (rest.map fun v => v.category).sum + (By.maxL + 11) + By.room.locals ≤ B.room.locals) (hc : cs + By.room.cells ≤ B.room.cells) (hs : sl + By.room.slots ≤ B.room.slots) (hp : pc + 3 = pc')
    (H : ∀ v h', Qy v h' → WP l B Z n0 Q h' (cs + By.room.cells) (sl + By.room.slots) pc' ls (v.toList ++ rest)) : WP l B Z n0 Q h cs sl pc ls st := by
  subst hp hyz hcl
  intro p e s m args below meth c T L C X hT N hn
  obtain ⟨hx, hZ, hown, hby, hml, hret, hlk, hnm⟩ := C
  obtain ⟨cq, kq, qa, qb, qc⟩ := isOf (T := T) hZ hT E
  obtain ⟨v, _, ⟨T1, L1, k1, n1⟩, -, X1, ⟨Lc, hQ, l1, y1, z1⟩, stp⟩ := X.virtualBack hx (y := y) (z := y) hown (mvT hZ w1) (mvT hZ w2) (notFace_of_selects (args := #[]) (mvT hZ w5)) (mvT hZ w5) (mvT hZ w6) hy (backOf (W := (rest.map fun v => v.category).sum) (Q := fun v h' L => Qy v h' ∧ Fr n0 L ∧ n0 ≤ h'.size) (hM hn []) hZ w4 w3 hfr hlo) qa qc (g := mkF m pc ls st) rfl (by rw [hml]; exact hls) (Steps.refl _) (argsL := as) (rest := rest) (lenOf hpd hlen) hst (by show 2 * 0 + _ ≤ _; omega) (hb hby hd) (fun _ _ => ⟨rfl, hT, hc, hs⟩)
  dsimp only [Pt.U, Pt.locs, Pt.cells, Pt.slots] at X1 l1 y1 z1 stp hQ
  subst l1 y1 z1
  obtain ⟨U, v', L', a1, rr⟩ := H v T1.heap hQ.1 p e s m args below meth c T1 _ ⟨hx, hZ, hown, hby, hml, hret, hlk, hnm⟩ X1 rfl (N.app hQ.2.1) hQ.2.2
  exact ⟨U, v', L', stp.trans a1, rr⟩
/-- Object.<init> -/
theorem WP.initO {a : Addr} {idx : Nat} (hd : decode B.bytes pc = .ok (.invokespecial idx, 3)) (w1 : (Cond.methodLink B.own idx Lib.objectInit).before a0 Z = true) (w2 : (Cond.instanceMethod Lib.objectInit).before a0 Z = true) (w3 : (Cond.code Lib.objectInit ⟨#[0xb1]⟩ 1 none).before a0 Z = true) (hls : ls.size = B.maxL) (hf : 1 ≤ B.room.frames) (hl : (rest.map fun v => v.category).sum + 12 ≤ B.room.locals) (hp : pc + 3 = pc')
    (H : WP l B Z n0 Q h cs sl pc' ls rest) : WP l B Z n0 Q h cs sl pc ls (.ref a :: rest) := by
  subst hp
  intro p e s m args below meth c T L C X hT N hn
  obtain ⟨hx, hZ, hown, hby, hml, hret, hlk, hnm⟩ := C
  obtain ⟨T1, X1, e1, stp⟩ := Jvm.RoadKit.initO X hx hZ hown w1 w2 w3 hT (g := mkF m pc ls (.ref a :: rest)) rfl (by rw [hml]; exact hls) rfl (hb hby hd) hf (W := (rest.map fun v => v.category).sum) (by show 2 * 0 + _ ≤ _; omega) hl
  obtain ⟨U, v', L', a1, rr⟩ := H p e s m args below meth c T1 _ ⟨hx, hZ, hown, hby, hml, hret, hlk, hnm⟩ X1 e1 N hn
  exact ⟨U, v', L', stp _ a1, rr⟩
/-! arrays: what one holds, place by place -/
def Av (Z : State) (h : Heap) (a : Addr) (ty : FieldType) (vs : List Value) : Prop := ∃ c : Cell, Arr Z h a c ty ∧ c.slots.toList = vs ∧ vs.length < 2 ^ 31
variable {a b : Addr} {ty : FieldType} {vs : List Value} {h' : Heap} {ws : List Addr}
theorem Av.lt (A : Av Z h a ty vs) : a < h.size := by obtain ⟨c, q, -⟩ := A; exact q.lt
theorem Av.keep (A : Av Z h a ty vs) (K : Keep h h' ws) (q : a ∉ ws) : Av Z h' a ty vs := by obtain ⟨c, A, r⟩ := A; exact ⟨c, ⟨K.2.1 a c A.1 q, A.2⟩, r⟩
theorem Av.len (A : Av Z h a ty vs) : vs.length < 2 ^ 31 := by obtain ⟨c, A, r, q⟩ := A; exact q
theorem own_idx {j : Int32} {i : Nat} (hj : j.toInt = (i : Int)) : j.toNatClampNeg = i ∧ ¬ j < 0 := by
  refine ⟨by simp [Int32.toNatClampNeg, hj], fun q => ?_⟩
  rw [Int32.lt_iff_toInt_lt] at q
  have : (0 : Int32).toInt = 0 := rfl
  omega
theorem Av.place {j : Int32} {i : Nat} {v : Value} {c : Cell} (e : c.slots.toList = vs) (hj : j.toInt = (i : Int)) (hv : vs[i]? = some v) : ¬ (j < 0 ∨ c.slots.size ≤ j.toNatClampNeg) ∧ c.slots[j.toNatClampNeg]? = some v := by
  obtain ⟨q1, q2⟩ := own_idx hj
  subst e
  rw [q1]
  have q3 : c.slots[i]? = some v := by simpa using hv
  refine ⟨fun q => q.elim q2 fun q => ?_, q3⟩
  have := (Array.getElem?_eq_some_iff.mp q3).1
  omega
theorem Keep.of_ext (E : Ext h h') : Keep h h' [] := (Keep.refl h []).ext E
theorem Av.set {i : Nat} {v : Value} {sl : Nat} (A : Av Z h a ty vs) (W : Wr h h' a sl v) (e : sl = i) : Av Z h' a ty (vs.set i v) := by
  subst e
  obtain ⟨c, A, r, q⟩ := A
  refine ⟨_, A.same W, ?_, by simpa using q⟩
  simp [Cell.setSlot, r]
theorem WP.newarr {aty : ArrayType} {n : Int32} {k : Nat} (hd : decode B.bytes pc = .ok (.newarray aty, 2)) (w : (Cond.arrayClass (newarray.typeOf aty)).before a0 Z = true) (hn : n.toInt = (k : Int)) (cap : Nat) (hcap : k ≤ cap) (hbig : cap * 8 ≤ 536870912) (hc : cs + 1 ≤ B.room.cells) (hs : sl + cap ≤ B.room.slots) (hp : pc + 2 = pc')
    (H : ∀ b h', b = h.size → n0 ≤ b → Keep h h' [] → Av Z h' b (newarray.typeOf aty) (List.replicate k (defaultValue (newarray.typeOf aty))) → WP l B Z n0 Q h' (cs + 1) (sl + cap) pc' ls (.ref b :: st)) : WP l B Z n0 Q h cs sl pc ls (.int n :: st) := by
  subst hp
  obtain ⟨q1, q2⟩ := own_idx hn
  refine WP.stepT (P := fun h' => Keep h h' [] ∧ n0 ≤ h.size ∧ Av Z h' h.size (newarray.typeOf aty) (List.replicate k (defaultValue (newarray.typeOf aty)))) ?_ (fun h' q => H h.size h' rfl q.2.1 q.1 q.2.2)
  intro p e s m args below meth c T L C X hT N hn'
  obtain ⟨T1, h1, cA, X1, e1, E1, A1, stp⟩ := newP X C.1 C.2.1 w hT (g := mkF m pc ls (.int n :: st)) rfl (hb C.2.2.2.1 hd) rfl q2 (cap := cap) (by omega) hbig hc hs
  refine ⟨T1, h1, L, X1, e1, N, Nat.le_trans hn' E1.1, ⟨Keep.of_ext E1, hn', _, A1, ?_, ?_⟩, stp⟩
  · simp [newA, q1]
  · simp; omega
theorem WP.alen {k : Int32} (hd : decode B.bytes pc = .ok (.arraylength, 1)) (A : Av Z h a ty vs) (hk : k.toInt = (vs.length : Int)) (hp : pc + 1 = pc') (H : WP l B Z n0 Q h cs sl pc' ls (.int k :: st)) : WP l B Z n0 Q h cs sl pc ls (.ref a :: st) := by
  subst hp
  obtain ⟨cl, A, r, q⟩ := A
  have e1 : cl.slots.size.toInt32 = k := by
    have e2 : cl.slots.size = vs.length := by rw [← r]; simp
    apply Int32.toInt_inj.mp
    rw [e2, hk]
    exact Int32.toInt_ofNat_of_lt q
  exact WP.step (fun p e s m args below meth c T L C X hT target k' => X.arraylength C.1 (by rw [hT]; exact A.1) (State.isArrayOf_alike C.2.1.alike A.2.1) (g := mkF m pc ls (.ref a :: st)) rfl rfl (hb C.2.2.2.1 hd) _ (by rw [e1]; exact k')) H
theorem WP.iaload {j : Int32} {x : Int32} (i : Nat) (hd : decode B.bytes pc = .ok (.iaload, 1)) (A : Av Z h a .int vs) (hj : j.toInt = (i : Int)) (hv : vs[i]? = some (.int x)) (hp : pc + 1 = pc') (H : WP l B Z n0 Q h cs sl pc' ls (.int x :: st)) : WP l B Z n0 Q h cs sl pc ls (.int j :: .ref a :: st) := by
  subst hp
  obtain ⟨cl, A, r, q⟩ := A
  obtain ⟨g1, g2⟩ := Av.place r hj hv
  exact WP.step (fun p e s m args below meth c T L C X hT target k' => X.iaload C.1 (by rw [hT]; exact A.1) (State.isArrayOf_alike C.2.1.alike A.2.1) A.2.2 g1 g2 (g := mkF m pc ls (.int j :: .ref a :: st)) rfl rfl (hb C.2.2.2.1 hd) _ k') H
theorem WP.laload {j : Int32} {x : Int64} (i : Nat) (hd : decode B.bytes pc = .ok (.laload, 1)) (A : Av Z h a .long vs) (hj : j.toInt = (i : Int)) (hv : vs[i]? = some (.long x)) (hp : pc + 1 = pc') (H : WP l B Z n0 Q h cs sl pc' ls (.long x :: st)) : WP l B Z n0 Q h cs sl pc ls (.int j :: .ref a :: st) := by
  subst hp
  obtain ⟨cl, A, r, q⟩ := A
  obtain ⟨g1, g2⟩ := Av.place r hj hv
  exact WP.step (fun p e s m args below meth c T L C X hT target k' => X.laload C.1 (by rw [hT]; exact A.1) (State.isArrayOf_alike C.2.1.alike A.2.1) A.2.2 g1 g2 (g := mkF m pc ls (.int j :: .ref a :: st)) rfl rfl (hb C.2.2.2.1 hd) _ k') H
theorem WP.caload {j : Int32} {x : Int32} (i : Nat) (hd : decode B.bytes pc = .ok (.caload, 1)) (A : Av Z h a .char vs) (hj : j.toInt = (i : Int)) (hv : vs[i]? = some (.int x)) (hp : pc + 1 = pc') (H : WP l B Z n0 Q h cs sl pc' ls (.int x :: st)) : WP l B Z n0 Q h cs sl pc ls (.int j :: .ref a :: st) := by
  subst hp
  obtain ⟨cl, A, r, q⟩ := A
  obtain ⟨g1, g2⟩ := Av.place r hj hv
  exact WP.step (fun p e s m args below meth c T L C X hT target k' => X.caload C.1 (by rw [hT]; exact A.1) (State.isArrayOf_alike C.2.1.alike A.2.1) A.2.2 g1 g2 (g := mkF m pc ls (.int j :: .ref a :: st)) rfl rfl (hb C.2.2.2.1 hd) _ k') H
theorem WP.baloadB {j : Int32} {x : Int32} (i : Nat) (hd : decode B.bytes pc = .ok (.baload, 1)) (A : Av Z h a .byte vs) (hj : j.toInt = (i : Int)) (hv : vs[i]? = some (.int x)) (hp : pc + 1 = pc') (H : WP l B Z n0 Q h cs sl pc' ls (.int x :: st)) : WP l B Z n0 Q h cs sl pc ls (.int j :: .ref a :: st) := by
  subst hp
  obtain ⟨cl, A, r, q⟩ := A
  obtain ⟨g1, g2⟩ := Av.place r hj hv
  exact WP.step (fun p e s m args below meth c T L C X hT target k' => X.baloadBytes C.1 (by rw [hT]; exact A.1) (State.isArrayOf_alike C.2.1.alike A.2.1) A.2.2 g1 g2 (g := mkF m pc ls (.int j :: .ref a :: st)) rfl rfl (hb C.2.2.2.1 hd) _ k') H
theorem WP.baloadZ {j : Int32} {x : Int32} (i : Nat) (hd : decode B.bytes pc = .ok (.baload, 1)) (A : Av Z h a .boolean vs) (hj : j.toInt = (i : Int)) (hv : vs[i]? = some (.int x)) (hp : pc + 1 = pc') (H : WP l B Z n0 Q h cs sl pc' ls (.int x :: st)) : WP l B Z n0 Q h cs sl pc ls (.int j :: .ref a :: st) := by
  subst hp
  obtain ⟨cl, A, r, q⟩ := A
  obtain ⟨g1, g2⟩ := Av.place r hj hv
  exact WP.step (fun p e s m args below meth c T L C X hT target k' => X.baloadBooleans C.1 (by rw [hT]; exact A.1) (State.isArrayOf_alike C.2.1.alike A.2.1) A.2.2 g1 g2 (g := mkF m pc ls (.int j :: .ref a :: st)) rfl rfl (hb C.2.2.2.1 hd) _ k') H
theorem WP.aaload {j : Int32} {x : Value} (i : Nat) (hd : decode B.bytes pc = .ok (.aaload, 1)) (A : Av Z h a ty vs) (hty : ty.isReference = true) (hj : j.toInt = (i : Int)) (hv : vs[i]? = some x) (hp : pc + 1 = pc') (H : WP l B Z n0 Q h cs sl pc' ls (x :: st)) : WP l B Z n0 Q h cs sl pc ls (.int j :: .ref a :: st) := by
  subst hp
  obtain ⟨cl, A, r, q⟩ := A
  obtain ⟨g1, g2⟩ := Av.place r hj hv
  exact WP.step (fun p e s m args below meth c T L C X hT target k' => X.aaload C.1 (by rw [hT]; exact A.1) (State.isArrayOf_alike C.2.1.alike A.2.1) hty A.2.2 g1 g2 (g := mkF m pc ls (.int j :: .ref a :: st)) rfl rfl (hb C.2.2.2.1 hd) _ k') H
theorem WP.iastore {j : Int32} {x : Int32} (i : Nat) (hd : decode B.bytes pc = .ok (.iastore, 1)) (A : Av Z h a .int vs) (hj : j.toInt = (i : Int)) (hi : i < vs.length) (ha : n0 ≤ a) (hp : pc + 1 = pc') (H : ∀ h', Keep h h' [a] → Av Z h' a .int (vs.set i (.int x)) → WP l B Z n0 Q h' cs sl pc' ls st) : WP l B Z n0 Q h cs sl pc ls (.int x :: .int j :: .ref a :: st) := by
  subst hp
  obtain ⟨cl, Ar, r, q⟩ := id A
  obtain ⟨g1, -⟩ := Av.place r hj (List.getElem?_eq_getElem hi)
  refine WP.stepT (P := fun h' => Keep h h' [a] ∧ Av Z h' a .int (vs.set i (.int x))) ?_ (fun h' q => H h' q.1 q.2)
  intro p e s m args below meth c T L C X hT N hn'
  obtain ⟨T1, h1, X1, e1, W1, stp⟩ := stI X C.1 C.2.1 hT Ar g1 (g := mkF m pc ls (.int x :: .int j :: .ref a :: st)) rfl rfl (hb C.2.2.2.1 hd)
  exact ⟨T1, h1, _, X1, e1, Fr.snoc X1 N ha, by rw [W1.size]; exact hn', ⟨Keep.of_wr W1, A.set W1 (own_idx hj).1⟩, stp⟩
theorem WP.lastore {j : Int32} {x : Int64} (i : Nat) (hd : decode B.bytes pc = .ok (.lastore, 1)) (A : Av Z h a .long vs) (hj : j.toInt = (i : Int)) (hi : i < vs.length) (ha : n0 ≤ a) (hp : pc + 1 = pc') (H : ∀ h', Keep h h' [a] → Av Z h' a .long (vs.set i (.long x)) → WP l B Z n0 Q h' cs sl pc' ls st) : WP l B Z n0 Q h cs sl pc ls (.long x :: .int j :: .ref a :: st) := by
  subst hp
  obtain ⟨cl, Ar, r, q⟩ := id A
  obtain ⟨g1, -⟩ := Av.place r hj (List.getElem?_eq_getElem hi)
  refine WP.stepT (P := fun h' => Keep h h' [a] ∧ Av Z h' a .long (vs.set i (.long x))) ?_ (fun h' q => H h' q.1 q.2)
  intro p e s m args below meth c T L C X hT N hn'
  obtain ⟨T1, h1, X1, e1, W1, stp⟩ := stJ X C.1 C.2.1 hT Ar g1 (g := mkF m pc ls (.long x :: .int j :: .ref a :: st)) rfl rfl (hb C.2.2.2.1 hd)
  exact ⟨T1, h1, _, X1, e1, Fr.snoc X1 N ha, by rw [W1.size]; exact hn', ⟨Keep.of_wr W1, A.set W1 (own_idx hj).1⟩, stp⟩
theorem WP.castore {j : Int32} {x : Int32} (i : Nat) (hd : decode B.bytes pc = .ok (.castore, 1)) (A : Av Z h a .char vs) (hj : j.toInt = (i : Int)) (hi : i < vs.length) (ha : n0 ≤ a) (hp : pc + 1 = pc') (H : ∀ h', Keep h h' [a] → Av Z h' a .char (vs.set i (.int (nar .char x))) → WP l B Z n0 Q h' cs sl pc' ls st) : WP l B Z n0 Q h cs sl pc ls (.int x :: .int j :: .ref a :: st) := by
  subst hp
  obtain ⟨cl, Ar, r, q⟩ := id A
  obtain ⟨g1, -⟩ := Av.place r hj (List.getElem?_eq_getElem hi)
  refine WP.stepT (P := fun h' => Keep h h' [a] ∧ Av Z h' a .char (vs.set i (.int (nar .char x)))) ?_ (fun h' q => H h' q.1 q.2)
  intro p e s m args below meth c T L C X hT N hn'
  obtain ⟨T1, h1, X1, e1, W1, stp⟩ := stC X C.1 C.2.1 hT Ar g1 (g := mkF m pc ls (.int x :: .int j :: .ref a :: st)) rfl rfl (hb C.2.2.2.1 hd)
  exact ⟨T1, h1, _, X1, e1, Fr.snoc X1 N ha, by rw [W1.size]; exact hn', ⟨Keep.of_wr W1, A.set W1 (own_idx hj).1⟩, stp⟩
theorem WP.bastoreB {j : Int32} {x : Int32} (i : Nat) (hd : decode B.bytes pc = .ok (.bastore, 1)) (A : Av Z h a .byte vs) (hj : j.toInt = (i : Int)) (hi : i < vs.length) (ha : n0 ≤ a) (hp : pc + 1 = pc') (H : ∀ h', Keep h h' [a] → Av Z h' a .byte (vs.set i (.int (nar .byte x))) → WP l B Z n0 Q h' cs sl pc' ls st) : WP l B Z n0 Q h cs sl pc ls (.int x :: .int j :: .ref a :: st) := by
  subst hp
  obtain ⟨cl, Ar, r, q⟩ := id A
  obtain ⟨g1, -⟩ := Av.place r hj (List.getElem?_eq_getElem hi)
  refine WP.stepT (P := fun h' => Keep h h' [a] ∧ Av Z h' a .byte (vs.set i (.int (nar .byte x)))) ?_ (fun h' q => H h' q.1 q.2)
  intro p e s m args below meth c T L C X hT N hn'
  obtain ⟨T1, h1, X1, e1, W1, stp⟩ := stB X C.1 C.2.1 hT Ar g1 (g := mkF m pc ls (.int x :: .int j :: .ref a :: st)) rfl rfl (hb C.2.2.2.1 hd)
  exact ⟨T1, h1, _, X1, e1, Fr.snoc X1 N ha, by rw [W1.size]; exact hn', ⟨Keep.of_wr W1, A.set W1 (own_idx hj).1⟩, stp⟩
theorem WP.bastoreZ {j : Int32} {x : Int32} (i : Nat) (hd : decode B.bytes pc = .ok (.bastore, 1)) (A : Av Z h a .boolean vs) (hj : j.toInt = (i : Int)) (hi : i < vs.length) (ha : n0 ≤ a) (hp : pc + 1 = pc') (H : ∀ h', Keep h h' [a] → Av Z h' a .boolean (vs.set i (.int (nar .boolean x))) → WP l B Z n0 Q h' cs sl pc' ls st) : WP l B Z n0 Q h cs sl pc ls (.int x :: .int j :: .ref a :: st) := by
  subst hp
  obtain ⟨cl, Ar, r, q⟩ := id A
  obtain ⟨g1, -⟩ := Av.place r hj (List.getElem?_eq_getElem hi)
  refine WP.stepT (P := fun h' => Keep h h' [a] ∧ Av Z h' a .boolean (vs.set i (.int (nar .boolean x)))) ?_ (fun h' q => H h' q.1 q.2)
  intro p e s m args below meth c T L C X hT N hn'
  obtain ⟨T1, h1, X1, e1, W1, stp⟩ := stZ X C.1 C.2.1 hT Ar g1 (g := mkF m pc ls (.int x :: .int j :: .ref a :: st)) rfl rfl (hb C.2.2.2.1 hd)
  exact ⟨T1, h1, _, X1, e1, Fr.snoc X1 N ha, by rw [W1.size]; exact hn', ⟨Keep.of_wr W1, A.set W1 (own_idx hj).1⟩, stp⟩
/-! objects: the fields that the sheet lays, in one list -/
abbrev OLay : Type := List (String × String × String)
def Ob (Z : State) (h : Heap) (a : Addr) (C : String) (lay : OLay) (vs : List Value) : Prop := Exa Z h a C ∧ lay.length = vs.length ∧ ∀ (i : Nat) (O n d : String) (v : Value), lay[i]? = some (O, n, d) → vs[i]? = some v → Fld Z h a O n d v
def OLaids (Z : State) (a0 : Array Value) (C : String) (lay : OLay) : Prop := ∀ q ∈ lay, Laid Z a0 C q.1 q.2.1 q.2.2 ∧ ∃ t, parseFieldDescriptor q.2.2 = some t
variable {Cl O n d : String} {lay : OLay} {v : Value}
theorem Ob.lt (A : Ob Z h a Cl lay vs) : a < h.size := A.1.lt
theorem Ob.keep (A : Ob Z h a Cl lay vs) (K : Keep h h' ws) (q : a ∉ ws) : Ob Z h' a Cl lay vs := ⟨A.1.keep K, A.2.1, fun i O n d v h1 h2 => (A.2.2 i O n d v h1 h2).keep K q⟩
theorem Ob.fld (A : Ob Z h a Cl lay vs) (i : Nat) (h1 : lay[i]? = some (O, n, d)) (h2 : vs[i]? = some v) : Fld Z h a O n d v := A.2.2 i O n d v h1 h2
theorem Ob.put {i : Nat} (A : Ob Z h a Cl lay vs) (La : OLaids Z a0 Cl lay) (hnd : (lay.map fun q => q.2.1).Nodup) (h1 : lay[i]? = some (O, n, d)) (W : Wr h h' a (Jvm.RoadKit.slotOf Z O n d) v) : Ob Z h' a Cl lay (vs.set i v) := by
  refine ⟨A.1.wr W, by simpa using A.2.1, fun j O' n' d' v' g1 g2 => ?_⟩
  by_cases e : i = j
  · subst e
    cases h1.symm.trans g1
    have hi : i < vs.length := by rw [← A.2.1]; exact (List.getElem?_eq_some_iff.mp h1).1
    rw [List.getElem?_set_self hi] at g2
    cases g2
    exact (A.fld i h1 (List.getElem?_eq_getElem hi)).same W
  · rw [List.getElem?_set_ne e] at g2
    refine (A.fld j g1 g2).other W (Or.inr ?_)
    obtain ⟨l1, t1, p1⟩ := La _ (List.mem_of_getElem? g1)
    obtain ⟨l2, t2, p2⟩ := La _ (List.mem_of_getElem? h1)
    refine slot_ne l1 l2 (fun q => ?_) p1 p2
    have k1 : (lay.map fun q => q.2.1)[j]? = some n' := by simp [g1]
    have k2 : (lay.map fun q => q.2.1)[i]? = some n := by simp [h1]
    obtain ⟨m1, f1⟩ := List.getElem?_eq_some_iff.mp k1
    obtain ⟨m2, f2⟩ := List.getElem?_eq_some_iff.mp k2
    have pw := List.pairwise_iff_getElem.mp hnd
    rcases Nat.lt_or_gt_of_ne e with c | c
    · exact pw i j m2 m1 c (f2.trans ((show n = n' from q.symm).trans f1.symm))
    · exact pw j i m1 m2 c (f1.trans ((show n' = n from q).trans f2.symm))
theorem WP.getf {idx i : Nat} (hd : decode B.bytes pc = .ok (.getfield idx, 3)) (w : (Cond.fieldLink B.own idx O n d).before a0 Z = true) (A : Ob Z h a Cl lay vs) (h1 : lay[i]? = some (O, n, d)) (h2 : vs[i]? = some v) (hp : pc + 3 = pc') (H : WP l B Z n0 Q h cs sl pc' ls (v :: st)) : WP l B Z n0 Q h cs sl pc ls (.ref a :: st) := by
  subst hp
  intro p e s m args below meth c T L C X hT N hn
  obtain ⟨T1, X1, e1, stp⟩ := getF X C.1 C.2.1 C.2.2.1 (host := "") (Or.inl w) Via.refl hT (A.fld i h1 h2) (g := mkF m pc ls (.ref a :: st)) rfl rfl (hb C.2.2.2.1 hd)
  obtain ⟨U, v', L', a1, rr⟩ := H p e s m args below meth c T1 _ C X1 e1 N hn
  exact ⟨U, v', L', stp _ a1, rr⟩
theorem WP.putf {idx i kk : Nat} {t : FieldType} (hd : decode B.bytes pc = .ok (.putfield idx, 3)) (w : (Cond.fieldLink B.own idx O n d).before a0 Z = true) (A : Ob Z h a Cl lay vs) (La : OLaids Z a0 Cl lay) (hnd : (lay.map fun q => q.2.1).Nodup) (h1 : lay[i]? = some (O, n, d))
    (hL : (Cond.lays Cl O n d).before a0 Z = true ∨ ((Cond.laysFinal Cl O n d).before a0 Z = true ∧ B.own = O ∧ B.mname = "<init>")) (wi : (Cond.instantiable Cl kk).before a0 Z = true) (ht : parseFieldDescriptor d = some t) (hnw : narrow t v = v) (hf : fits t v = true) (ha : n0 ≤ a) (hp : pc + 3 = pc')
    (H : ∀ h', Keep h h' [a] → Ob Z h' a Cl lay (vs.set i v) → WP l B Z n0 Q h' cs sl pc' ls st) : WP l B Z n0 Q h cs sl pc ls (v :: .ref a :: st) := by
  subst hp
  have hi : i < vs.length := by rw [← A.2.1]; exact (List.getElem?_eq_some_iff.mp h1).1
  refine WP.stepT (P := fun h' => Keep h h' [a] ∧ Ob Z h' a Cl lay (vs.set i v)) ?_ (fun h' q => H h' q.1 q.2)
  intro p e s m args below meth c T L C X hT N hn'
  obtain ⟨T1, h2, X1, e1, W1, stp⟩ := putF X C.1 C.2.1 C.2.2.1 (host := "") (Or.inl w) Via.refl hT (A.fld i h1 (List.getElem?_eq_getElem hi)) A.1 (hL.imp id fun q => ⟨q.1, q.2.1, C.2.2.2.2.2.2.2.trans q.2.2⟩) wi ht hnw hf (g := mkF m pc ls (v :: .ref a :: st)) rfl rfl (hb C.2.2.2.1 hd)
  exact ⟨T1, h2, _, X1, e1, Fr.snoc X1 N ha, by rw [W1.size]; exact hn', ⟨Keep.of_wr W1, A.put La hnd h1 W1⟩, stp⟩
theorem WP.newobj {idx k : Nat} (hd : decode B.bytes pc = .ok (.new idx, 3)) (w : (Cond.classLink B.own idx Cl).before a0 Z = true) (wi : (Cond.instantiable Cl k).before a0 Z = true) (wz : (Cond.initialized Cl).before a0 Z = true) (La : OLaids Z a0 Cl lay) (hvs : lay.map (fun q => (parseFieldDescriptor q.2.2).map defaultValue) = vs.map some) (hc : cs + 1 ≤ B.room.cells) (hs : sl + k ≤ B.room.slots) (hp : pc + 3 = pc')
    (H : ∀ b h', b = h.size → n0 ≤ b → Keep h h' [] → Ob Z h' b Cl lay vs → WP l B Z n0 Q h' (cs + 1) (sl + k) pc' ls (.ref b :: st)) : WP l B Z n0 Q h cs sl pc ls st := by
  subst hp
  refine WP.stepT (P := fun h' => Keep h h' [] ∧ n0 ≤ h.size ∧ Ob Z h' h.size Cl lay vs) ?_ (fun h' q => H h.size h' rfl q.2.1 q.1 q.2.2)
  intro p e s m args below meth c T L C X hT N hn'
  obtain ⟨T1, h1, X1, e1, E1, A1, D1, -, stp⟩ := newO X C.1 C.2.1 C.2.2.1 w wi wz hT (g := mkF m pc ls st) rfl (hb C.2.2.2.1 hd) hc hs
  refine ⟨T1, h1, L, X1, e1, N, Nat.le_trans hn' E1.1, ⟨Keep.of_ext E1, hn', A1, by simpa using congrArg List.length hvs, fun i O n d v g1 g2 => ?_⟩, stp⟩
  obtain ⟨l1, t1, p1⟩ := La _ (List.mem_of_getElem? g1)
  have k1 := congrArg (fun z => z[i]?) hvs
  simp only [List.getElem?_map, g1, g2, Option.map_some] at k1
  rw [show parseFieldDescriptor d = some t1 from p1] at k1
  simp only [Option.map_some, Option.some.injEq] at k1
  rw [← k1]
  exact D1 l1 p1
end W
end Jvm.OwnWP
namespace Jvm.OwnWP
open Sem ClassFile Op Lib Jvm.RoadKit
theorem own_r32 (x : Int32) : -2147483648 ≤ x.toInt ∧ x.toInt < 2147483648 := ⟨x.le_toInt, x.toInt_lt⟩
theorem own_r64 (x : Int64) : -9223372036854775808 ≤ x.toInt ∧ x.toInt < 9223372036854775808 := ⟨x.le_toInt, x.toInt_lt⟩
theorem own_iadd {x y : Int32} (h1 : -2147483648 ≤ x.toInt + y.toInt) (h2 : x.toInt + y.toInt < 2147483648) : (x + y).toInt = x.toInt + y.toInt := by have := c_iadd x y; have := own_r32 (x + y); omega
theorem own_isub {x y : Int32} (h1 : -2147483648 ≤ x.toInt - y.toInt) (h2 : x.toInt - y.toInt < 2147483648) : (x - y).toInt = x.toInt - y.toInt := by have := c_isub x y; have := own_r32 (x - y); omega
theorem own_ladd {x y : Int64} (h1 : -9223372036854775808 ≤ x.toInt + y.toInt) (h2 : x.toInt + y.toInt < 9223372036854775808) : (x + y).toInt = x.toInt + y.toInt := by have := c_ladd x y; have := own_r64 (x + y); omega
theorem own_lsub {x y : Int64} (h1 : -9223372036854775808 ≤ x.toInt - y.toInt) (h2 : x.toInt - y.toInt < 9223372036854775808) : (x - y).toInt = x.toInt - y.toInt := by have := c_lsub x y; have := own_r64 (x - y); omega
theorem own_mask (x m : Int32) (k : Nat) (P : Int) (hk : k ≤ 31) (hm : m.toBitVec.toNat = 2 ^ k - 1) (hP : ((2 ^ k : Nat) : Int) = P) : (x &&& m).toInt = x.toInt % P := by rw [← hP]; exact c_mask x m k hk hm
theorem own_maskL (x m : Int64) (k : Nat) (P : Int) (hk : k ≤ 63) (hm : m.toBitVec.toNat = 2 ^ k - 1) (hP : ((2 ^ k : Nat) : Int) = P) : (x &&& m).toInt = x.toInt % P := by rw [← hP]; exact c_maskL x m k hk hm
theorem own_irem {x y : Int32} {d : Int} (hy : y.toInt = d) (h0 : 0 ≤ x.toInt) : (x % y).toInt = x.toInt % d := (c_irem x y d hy).1 h0
theorem own_ushr (x q : Int32) (k : Nat) (P : Int) (hk : q.toBitVec.toNat % 32 = k) (h0 : 0 < k) (hP : ((2 ^ k : Nat) : Int) = P) : (ushr x q).toInt = (x.toInt % 4294967296) / P := by rw [← hP]; exact c_iushr x q k hk h0
theorem own_ishr (x q : Int32) (k : Nat) (P : Int) (hk : q.toBitVec.toNat % 32 = k) (hP : ((2 ^ k : Nat) : Int) = P) : (x >>> (q &&& 31)).toInt = x.toInt / P := by rw [← hP]; exact c_ishr x q k hk
theorem own_nar1 : nar .boolean 1 = 1 := by decide
theorem own_nar0 : nar .boolean 0 = 0 := by decide
theorem own_q1 : (some (Value.int (nar .boolean 1))) = some (Value.int 1) := congrArg (fun z => some (Value.int z)) own_nar1
theorem own_q0 : (some (Value.int (nar .boolean 0))) = some (Value.int 0) := congrArg (fun z => some (Value.int z)) own_nar0
theorem own_e32 {x y : Int32} (h : x.toInt = y.toInt) : x = y := Int32.toInt_inj.mp h
theorem own_e64 {x y : Int64} (h : x.toInt = y.toInt) : x = y := Int64.toInt_inj.mp h
end Jvm.OwnWP
namespace Jvm.OwnWP
theorem own_getI (xs : List Int32) (i : Nat) (h : i < xs.length) : ∃ y, (xs.map Value.int)[i]? = some (Value.int y) := ⟨xs[i], by simp [h]⟩
theorem own_getJ (xs : List Int64) (i : Nat) (h : i < xs.length) : ∃ y, (xs.map Value.long)[i]? = some (Value.long y) := ⟨xs[i], by simp [h]⟩
end Jvm.OwnWP
namespace Jvm.OwnWP
theorem own_nil {a : Addr} : a ∉ ([] : List Addr) := nofun
theorem own_cons {a b : Addr} {ws : List Addr} (h : a ≠ b) (h' : a ∉ ws) : a ∉ b :: ws := fun q => (List.mem_cons.mp q).elim h h'
end Jvm.OwnWP
namespace Jvm.OwnWP
open Sem ClassFile Op Lib Jvm.Stand Jvm.Free Jvm.LawKit Jvm.RoadKit
section W
variable {l : Launch} {B : Bod} {Z : State} {n0 : Nat} {Q : Option Value → Heap → Prop} {h : Heap} {cs sl pc pc' : Nat} {ls ls' : Array Slot} {st rest : List Value} {a0 : Array Value}
/-- a private method by invokevirtual; that its class is no interface is read off another 'selects' word of that class -/
theorem WP.callP {y y0 : MethodName} {By : Bod} {Cl : String} {as : List Value} {a : Addr} {idx : Nat} {Qy : Option Value → Heap → Prop} {ps : List FieldType} {r : Option FieldType}
    (hd : decode B.bytes pc = .ok (.invokevirtual idx, 3)) (w1 : (Cond.methodLink B.own idx y).before a0 Z = true) (w2 : (Cond.instanceMethod y).before a0 Z = true) (w5 : (Cond.privateMethod y).before a0 Z = true) (w6 : (Cond.selects Cl y0 y0).before a0 Z = true) (w3 : (Cond.initialized y.cls).before a0 Z = true) (w4 : (Cond.code y By.bytes By.maxL By.ret).before a0 Z = true) (hcl : y0.cls = y.cls)
    (hy : y.cls ≠ "java/lang/invoke/MethodHandle" ∧ y.cls ≠ "java/lang/invoke/VarHandle") {Ce : String} (E : Exa Z h a Ce) (hM : OMet l y By Z n0 (.ref a :: as).toArray h Qy) (hpd : parseMethodDescriptor y.desc = some ⟨ps, r⟩) (hlen : as.length = ps.length) (hst : st = as.reverse ++ .ref a :: rest) (hls : ls.size = B.maxL)
    (hfr : By.room.frames + 1 ≤ B.room.frames) (hlo : (rest.map fun v => v.category).sum + (By.maxL + 11) + By.room.locals ≤ B.room.locals) (hc : cs + By.room.cells ≤ B.room.cells) (hs : sl + By.room.slots ≤ B.room.slots) (hp : pc + 3 = pc')
    (H : ∀ v h', Qy v h' → WP l B Z n0 Q h' (cs + By.room.cells) (sl + By.room.slots) pc' ls (v.toList ++ rest)) : WP l B Z n0 Q h cs sl pc ls st := by
  subst hp
  intro p e s m args below meth c T L C X hT N hn
  obtain ⟨hx, hZ, hown, hby, hml, hret, hlk, hnm⟩ := C
  obtain ⟨cq, q1, q2⟩ := E.cell
  have hpr : s.PrivateAt y := Cond.privateMethod_at (mvP hZ w5 (args := #[]))
  have hsel : (Cond.selects y.cls y y).before args s = true := by
    obtain ⟨c2, r2, m2, -, -, q3, -, kP, hkP, hkPi⟩ := Cond.selects_spec (mvT (args := args) hZ w6)
    have hc2 := findClass_of_methodNamed q3
    rw [hcl] at hc2
    exact selects_self_of_private hc2 hkP hkPi hpr (mvT hZ w2) hy
  obtain ⟨v, _, ⟨T1, L1, k1, n1⟩, -, X1, ⟨Lc, hQ, l1, y1, z1⟩, stp⟩ := X.privateBack hx (y := y) hown (mvT hZ w1) (mvT hZ w2) hsel hpr (mvT hZ w4) hy (backOf (W := (rest.map fun v => v.category).sum) (Q := fun v h' L => Qy v h' ∧ Fr n0 L ∧ n0 ≤ h'.size) (hM hn []) hZ w4 w3 hfr hlo) (g := mkF m pc ls st) rfl (by rw [hml]; exact hls) (Steps.refl _) (a := a) (cell := cq) (by rw [hT]; exact q1) q2 (argsL := as) (rest := rest) (lenOf hpd hlen) hst (by show 2 * 0 + _ ≤ _; omega) (hb hby hd) (fun _ _ => ⟨rfl, hT, hc, hs⟩)
  dsimp only [Pt.U, Pt.locs, Pt.cells, Pt.slots] at X1 l1 y1 z1 stp hQ
  subst l1 y1 z1
  obtain ⟨U, v', L', a1, rr⟩ := H v T1.heap hQ.1 p e s m args below meth c T1 _ ⟨hx, hZ, hown, hby, hml, hret, hlk, hnm⟩ X1 rfl (N.app hQ.2.1) hQ.2.2
  exact ⟨U, v', L', stp.trans a1, rr⟩
end W
end Jvm.OwnWP


namespace Jvm.Pilot.@@N@@
open Jvm Jvm.ClassFile Sem Op Lib Jvm.Free Jvm.Stand Jvm.LawKit Jvm.RoadKit Jvm.OwnWP Bundle Jvm.Pilot.@@N@@.Jvm.D

abbrev HW (Z : State) (a0 : Array Value) : Prop := ∀ d ∈ tables_1, d.before a0 Z = true
theorem w0 {Z : State} {a0 : Array Value} (hw : HW Z a0) : ((Jvm.Cond.arrayClass Jvm.ClassFile.FieldType.int)).before a0 Z = true := hw _ (List.mem_of_getElem? (i := 0) rfl)
theorem w1 {Z : State} {a0 : Array Value} (hw : HW Z a0) : ((Jvm.Cond.methodLink "com/example/stampwise/stampwise/history/IntGroupsLastAtOrBeforePinLaw" (13 : Nat) ({ cls := "com/example/stampwise/stampwise/history/IntGroupsLastAtOrBeforePinLaw", name := "next", desc := "(III)I" } : Jvm.MethodName))).before a0 Z = true := hw _ (List.mem_of_getElem? (i := 1) rfl)
theorem w2 {Z : State} {a0 : Array Value} (hw : HW Z a0) : ((Jvm.Cond.static ({ cls := "com/example/stampwise/stampwise/history/IntGroupsLastAtOrBeforePinLaw", name := "next", desc := "(III)I" } : Jvm.MethodName))).before a0 Z = true := hw _ (List.mem_of_getElem? (i := 2) rfl)
theorem w3 {Z : State} {a0 : Array Value} (hw : HW Z a0) : ((Jvm.Cond.initialized "com/example/stampwise/stampwise/history/IntGroupsLastAtOrBeforePinLaw")).before a0 Z = true := hw _ (List.mem_of_getElem? (i := 3) rfl)
theorem w4 {Z : State} {a0 : Array Value} (hw : HW Z a0) : ((Jvm.Cond.code ({ cls := "com/example/stampwise/stampwise/history/IntGroupsLastAtOrBeforePinLaw", name := "next", desc := "(III)I" } : Jvm.MethodName) method_2_code (3 : Nat) (Option.some Jvm.ClassFile.FieldType.int))).before a0 Z = true := hw _ (List.mem_of_getElem? (i := 4) rfl)
theorem w5 {Z : State} {a0 : Array Value} (hw : HW Z a0) : ((Jvm.Cond.methodLink "com/example/stampwise/stampwise/history/IntGroupsLastAtOrBeforePinLaw" (7 : Nat) ({ cls := "java/lang/Math", name := "max", desc := "(II)I" } : Jvm.MethodName))).before a0 Z = true := hw _ (List.mem_of_getElem? (i := 5) rfl)
theorem w6 {Z : State} {a0 : Array Value} (hw : HW Z a0) : ((Jvm.Cond.static ({ cls := "java/lang/Math", name := "max", desc := "(II)I" } : Jvm.MethodName))).before a0 Z = true := hw _ (List.mem_of_getElem? (i := 6) rfl)
theorem w7 {Z : State} {a0 : Array Value} (hw : HW Z a0) : ((Jvm.Cond.initialized "java/lang/Math")).before a0 Z = true := hw _ (List.mem_of_getElem? (i := 7) rfl)
theorem w8 {Z : State} {a0 : Array Value} (hw : HW Z a0) : ((Jvm.Cond.code ({ cls := "java/lang/Math", name := "max", desc := "(II)I" } : Jvm.MethodName) jdk_29_method_65_code (2 : Nat) (Option.some Jvm.ClassFile.FieldType.int))).before a0 Z = true := hw _ (List.mem_of_getElem? (i := 8) rfl)
theorem w9 {Z : State} {a0 : Array Value} (hw : HW Z a0) : ((Jvm.Cond.methodLink "com/example/stampwise/stampwise/history/IntGroupsLastAtOrBeforePinLaw" (19 : Nat) ({ cls := "com/example/stampwise/stampwise/history/IntGroups", name := "lastAtOrBefore", desc := "([IIII)I" } : Jvm.MethodName))).before a0 Z = true := hw _ (List.mem_of_getElem? (i := 9) rfl)
theorem w10 {Z : State} {a0 : Array Value} (hw : HW Z a0) : ((Jvm.Cond.static ({ cls := "com/example/stampwise/stampwise/history/IntGroups", name := "lastAtOrBefore", desc := "([IIII)I" } : Jvm.MethodName))).before a0 Z = true := hw _ (List.mem_of_getElem? (i := 10) rfl)
theorem w11 {Z : State} {a0 : Array Value} (hw : HW Z a0) : ((Jvm.Cond.initialized "com/example/stampwise/stampwise/history/IntGroups")).before a0 Z = true := hw _ (List.mem_of_getElem? (i := 11) rfl)
theorem w12 {Z : State} {a0 : Array Value} (hw : HW Z a0) : ((Jvm.Cond.code ({ cls := "com/example/stampwise/stampwise/history/IntGroups", name := "lastAtOrBefore", desc := "([IIII)I" } : Jvm.MethodName) prog_113_method_10_code (7 : Nat) (Option.some Jvm.ClassFile.FieldType.int))).before a0 Z = true := hw _ (List.mem_of_getElem? (i := 12) rfl)
theorem pd_0 : parseMethodDescriptor "(II)I" = some ⟨[.int, .int], some .int⟩ := by decide +kernel
theorem pd_1 : parseMethodDescriptor "([IIII)I" = some ⟨[(.array .int), .int, .int, .int], some .int⟩ := by decide +kernel
theorem pd_2 : parseMethodDescriptor "(III)I" = some ⟨[.int, .int, .int], some .int⟩ := by decide +kernel
theorem d1_0 : decode method_2_code 0 = .ok (.iload_n 2, 1) := by decide +kernel
theorem d1_1 : decode method_2_code 1 = .ok (.ifCond .eq 7, 3) := by decide +kernel
theorem d1_4 : decode method_2_code 4 = .ok (.iload_n 0, 1) := by decide +kernel
theorem d1_5 : decode method_2_code 5 = .ok (.goto 8, 3) := by decide +kernel
theorem d1_8 : decode method_2_code 8 = .ok (.iload_n 0, 1) := by decide +kernel
theorem d1_9 : decode method_2_code 9 = .ok (.iload_n 1, 1) := by decide +kernel
theorem d1_10 : decode method_2_code 10 = .ok (.invokestatic 7, 3) := by decide +kernel
theorem d1_13 : decode method_2_code 13 = .ok (.ireturn, 1) := by decide +kernel
theorem d2_0 : decode jdk_29_method_65_code 0 = .ok (.iload_n 0, 1) := by decide +kernel
theorem d2_1 : decode jdk_29_method_65_code 1 = .ok (.iload_n 1, 1) := by decide +kernel
theorem d2_2 : decode jdk_29_method_65_code 2 = .ok (.if_icmp .lt 7, 3) := by decide +kernel
theorem d2_5 : decode jdk_29_method_65_code 5 = .ok (.iload_n 0, 1) := by decide +kernel
theorem d2_6 : decode jdk_29_method_65_code 6 = .ok (.goto 4, 3) := by decide +kernel
theorem d2_9 : decode jdk_29_method_65_code 9 = .ok (.iload_n 1, 1) := by decide +kernel
theorem d2_10 : decode jdk_29_method_65_code 10 = .ok (.ireturn, 1) := by decide +kernel
theorem d3_0 : decode prog_113_method_10_code 0 = .ok (.iload_n 1, 1) := by decide +kernel
theorem d3_1 : decode prog_113_method_10_code 1 = .ok (.istore 4, 2) := by decide +kernel
theorem d3_3 : decode prog_113_method_10_code 3 = .ok (.iload_n 2, 1) := by decide +kernel
theorem d3_4 : decode prog_113_method_10_code 4 = .ok (.iconst 1, 1) := by decide +kernel
theorem d3_5 : decode prog_113_method_10_code 5 = .ok (.isub, 1) := by decide +kernel
theorem d3_6 : decode prog_113_method_10_code 6 = .ok (.istore 5, 2) := by decide +kernel
theorem d3_8 : decode prog_113_method_10_code 8 = .ok (.iload 4, 2) := by decide +kernel
theorem d3_10 : decode prog_113_method_10_code 10 = .ok (.iload 5, 2) := by decide +kernel
theorem d3_12 : decode prog_113_method_10_code 12 = .ok (.if_icmp .ge 38, 3) := by decide +kernel
theorem d3_15 : decode prog_113_method_10_code 15 = .ok (.iload 4, 2) := by decide +kernel
theorem d3_17 : decode prog_113_method_10_code 17 = .ok (.iload 5, 2) := by decide +kernel
theorem d3_19 : decode prog_113_method_10_code 19 = .ok (.iadd, 1) := by decide +kernel
theorem d3_20 : decode prog_113_method_10_code 20 = .ok (.iconst 1, 1) := by decide +kernel
theorem d3_21 : decode prog_113_method_10_code 21 = .ok (.iadd, 1) := by decide +kernel
theorem d3_22 : decode prog_113_method_10_code 22 = .ok (.iconst 1, 1) := by decide +kernel
theorem d3_23 : decode prog_113_method_10_code 23 = .ok (.iushr, 1) := by decide +kernel
theorem d3_24 : decode prog_113_method_10_code 24 = .ok (.istore 6, 2) := by decide +kernel
theorem d3_26 : decode prog_113_method_10_code 26 = .ok (.aload_n 0, 1) := by decide +kernel
theorem d3_27 : decode prog_113_method_10_code 27 = .ok (.iload 6, 2) := by decide +kernel
theorem d3_29 : decode prog_113_method_10_code 29 = .ok (.iaload, 1) := by decide +kernel
theorem d3_30 : decode prog_113_method_10_code 30 = .ok (.iload_n 3, 1) := by decide +kernel
theorem d3_31 : decode prog_113_method_10_code 31 = .ok (.if_icmp .gt 10, 3) := by decide +kernel
theorem d3_34 : decode prog_113_method_10_code 34 = .ok (.iload 6, 2) := by decide +kernel
theorem d3_36 : decode prog_113_method_10_code 36 = .ok (.istore 4, 2) := by decide +kernel
theorem d3_38 : decode prog_113_method_10_code 38 = .ok (.goto 9, 3) := by decide +kernel
theorem d3_41 : decode prog_113_method_10_code 41 = .ok (.iload 6, 2) := by decide +kernel
theorem d3_43 : decode prog_113_method_10_code 43 = .ok (.iconst 1, 1) := by decide +kernel
theorem d3_44 : decode prog_113_method_10_code 44 = .ok (.isub, 1) := by decide +kernel
theorem d3_45 : decode prog_113_method_10_code 45 = .ok (.istore 5, 2) := by decide +kernel
theorem d3_47 : decode prog_113_method_10_code 47 = .ok (.goto (-39), 3) := by decide +kernel
theorem d3_50 : decode prog_113_method_10_code 50 = .ok (.iload 4, 2) := by decide +kernel
theorem d3_52 : decode prog_113_method_10_code 52 = .ok (.ireturn, 1) := by decide +kernel
def B0 : Bod := ("com/example/stampwise/stampwise/history/IntGroupsLastAtOrBeforePinLaw", "law", code, maxLocals, ret, room_1)
theorem pl0 : plainFor (⟨"com/example/stampwise/stampwise/history/IntGroupsLastAtOrBeforePinLaw", "law", "(JJIII)Z"⟩ : MethodName) = true := plainFor_of_name (by first | (simp [plainName, overriddenIn]; done) | decide +kernel)
def B1 : Bod := ("com/example/stampwise/stampwise/history/IntGroupsLastAtOrBeforePinLaw", "next", method_2_code, 3, some .int, ({ frames := 1, cells := 0, slots := 0, locals := 13 } : Room))
theorem pl1 : plainFor (⟨"com/example/stampwise/stampwise/history/IntGroupsLastAtOrBeforePinLaw", "next", "(III)I"⟩ : MethodName) = true := plainFor_of_name (by first | (simp [plainName, overriddenIn]; done) | decide +kernel)
def B2 : Bod := ("java/lang/Math", "max", jdk_29_method_65_code, 2, some .int, ({ frames := 0, cells := 0, slots := 0, locals := 0 } : Room))
theorem pl2 : plainFor (⟨"java/lang/Math", "max", "(II)I"⟩ : MethodName) = true := Jvm.Free.JP.mathPlain rfl (by decide +kernel)
def B3 : Bod := ("com/example/stampwise/stampwise/history/IntGroups", "lastAtOrBefore", prog_113_method_10_code, 7, some .int, ({ frames := 0, cells := 0, slots := 0, locals := 0 } : Room))
theorem pl3 : plainFor (⟨"com/example/stampwise/stampwise/history/IntGroups", "lastAtOrBefore", "([IIII)I"⟩ : MethodName) = true := plainFor_of_name (by first | (simp [plainName, overriddenIn]; done) | decide +kernel)
theorem own_get5 (x0 x1 x2 x3 x4 : Int32) (i : Nat) (hi : i < 5) : ∃ y : Int32, ([.int x0, .int x1, .int x2, .int x3, .int x4] : List Value)[i]? = some (.int y) ∧ ((i = 0 ∧ y.toInt = x0.toInt) ∨ (i = 1 ∧ y.toInt = x1.toInt) ∨ (i = 2 ∧ y.toInt = x2.toInt) ∨ (i = 3 ∧ y.toInt = x3.toInt) ∨ (i = 4 ∧ y.toInt = x4.toInt)) := by
  rcases (by omega : i = 0 ∨ i = 1 ∨ i = 2 ∨ i = 3 ∨ i = 4) with rfl | rfl | rfl | rfl | rfl
  · exact ⟨x0, rfl, by omega⟩
  · exact ⟨x1, rfl, by omega⟩
  · exact ⟨x2, rfl, by omega⟩
  · exact ⟨x3, rfl, by omega⟩
  · exact ⟨x4, rfl, by omega⟩
theorem max_met {l : Launch} {Z : State} {a0 : Array Value} (hw : HW Z a0) {n0 : Nat} {h : Heap} (x y : Int32) : OMet l (⟨"java/lang/Math", "max", "(II)I"⟩ : MethodName) B2 Z n0 #[(.int x), (.int y)] h (fun v h' => h = h' ∧ ∃ r : Int32, v = some (.int r) ∧ ((x.toInt < y.toInt ∧ r.toInt = y.toInt) ∨ (y.toInt ≤ x.toInt ∧ r.toInt = x.toInt))) := by
  refine OMet.of_wp (ls0 := #[.val (.int x), .val (.int y)]) pl2 rfl rfl (fun m => by first | rfl | (simp [entryFrame, mkF, argsToLocals, Value.category, B2]; done)) ?_
  refine WP.iloadN d2_0 rfl (pc' := 1) rfl ?_
  refine WP.iloadN d2_1 rfl (pc' := 2) rfl ?_
  refine WP.icmpLt d2_2 (tgt := 9) (by decide) (pc' := 5) rfl (fun c2 => ?_) (fun c2 => ?_)
  ·
    refine WP.iloadN d2_9 rfl (pc' := 10) rfl ?_
    exact WP.retI d2_10 rfl (by decide) (by decide) ⟨rfl, _, rfl, by omega⟩
  refine WP.iloadN d2_5 rfl (pc' := 6) rfl ?_
  refine WP.goto d2_6 (pc' := 10) (by decide) ?_
  exact WP.retI d2_10 rfl (by decide) (by decide) ⟨rfl, _, rfl, by omega⟩
theorem next_met {l : Launch} {Z : State} {a0 : Array Value} (hw : HW Z a0) {n0 : Nat} {h : Heap} (x y d : Int32) : OMet l (⟨"com/example/stampwise/stampwise/history/IntGroupsLastAtOrBeforePinLaw", "next", "(III)I"⟩ : MethodName) B1 Z n0 #[(.int x), (.int y), (.int d)] h (fun v h' => h = h' ∧ ∃ r : Int32, v = some (.int r) ∧ x.toInt ≤ r.toInt) := by
  refine OMet.of_wp (ls0 := #[.val (.int x), .val (.int y), .val (.int d)]) pl1 rfl rfl (fun m => by first | rfl | (simp [entryFrame, mkF, argsToLocals, Value.category, B1]; done)) ?_
  refine WP.iloadN d1_0 rfl (pc' := 1) rfl ?_
  refine WP.ifEq d1_1 (tgt := 8) (by decide) (pc' := 4) rfl (fun c1 => ?_) (fun c1 => ?_)
  ·
    refine WP.iloadN d1_8 rfl (pc' := 9) rfl ?_
    refine WP.iloadN d1_9 rfl (pc' := 10) rfl ?_
    refine WP.callS (y := (⟨"java/lang/Math", "max", "(II)I"⟩ : MethodName)) (By := B2) (as := [(.int x), (.int y)]) (rest := []) d1_10 (w5 hw) (w6 hw) (w7 hw) (w8 hw) (by decide) (max_met hw x y) pd_0 rfl rfl rfl (by decide) (Nat.le_of_ble_eq_true rfl) (by decide) (by decide) (pc' := 13) rfl ?_
    rintro _ _ ⟨rfl, m, rfl, hm⟩
    show WP _ _ _ _ _ _ _ _ _ _ [(.int m)]
    exact WP.retI d1_13 rfl (by decide) (by decide) ⟨rfl, _, rfl, by omega⟩
  refine WP.iloadN d1_4 rfl (pc' := 5) rfl ?_
  refine WP.goto d1_5 (pc' := 13) (by decide) ?_
  exact WP.retI d1_13 rfl (by decide) (by decide) ⟨rfl, _, rfl, by omega⟩
theorem lab_8 {l : Launch} {Z : State} {a0 : Array Value} (hw : HW Z a0) {n0 : Nat} {h : Heap} (a : Addr) (x0 x1 x2 x3 x4 fr to at' : Int32) (A_a : Av Z h a .int [.int x0, .int x1, .int x2, .int x3, .int x4]) (hs : x0.toInt ≤ x1.toInt ∧ x1.toInt ≤ x2.toInt ∧ x2.toInt ≤ x3.toInt ∧ x3.toInt ≤ x4.toInt) (hb : 0 ≤ fr.toInt ∧ fr.toInt < to.toInt ∧ to.toInt ≤ 5) (n : Nat) : ∀ (lo hi : Int32) (s6 : Slot), One s6 → hi.toInt - lo.toInt = (n : Int) → (fr.toInt ≤ lo.toInt ∧ lo.toInt ≤ hi.toInt ∧ hi.toInt < to.toInt ∧ (lo.toInt = 0 → x0.toInt ≤ at'.toInt) ∧ (lo.toInt = 1 → x1.toInt ≤ at'.toInt) ∧ (lo.toInt = 2 → x2.toInt ≤ at'.toInt) ∧ (lo.toInt = 3 → x3.toInt ≤ at'.toInt) ∧ (lo.toInt = 4 → x4.toInt ≤ at'.toInt) ∧ (hi.toInt < 1 → 1 < to.toInt → at'.toInt < x1.toInt) ∧ (hi.toInt < 2 → 2 < to.toInt → at'.toInt < x2.toInt) ∧ (hi.toInt < 3 → 3 < to.toInt → at'.toInt < x3.toInt) ∧ (hi.toInt < 4 → 4 < to.toInt → at'.toInt < x4.toInt)) → WP l B3 Z n0 (fun v h' => h = h' ∧ ∃ r : Int32, v = some (.int r) ∧ fr.toInt ≤ r.toInt ∧ r.toInt < to.toInt ∧ ((fr.toInt ≤ 0 ∧ 0 ≤ r.toInt ∧ x0.toInt ≤ at'.toInt) ∨ (r.toInt < 0 ∧ 0 < to.toInt ∧ at'.toInt < x0.toInt) ∨ 0 < fr.toInt ∨ to.toInt ≤ 0) ∧ ((fr.toInt ≤ 1 ∧ 1 ≤ r.toInt ∧ x1.toInt ≤ at'.toInt) ∨ (r.toInt < 1 ∧ 1 < to.toInt ∧ at'.toInt < x1.toInt) ∨ 1 < fr.toInt ∨ to.toInt ≤ 1) ∧ ((fr.toInt ≤ 2 ∧ 2 ≤ r.toInt ∧ x2.toInt ≤ at'.toInt) ∨ (r.toInt < 2 ∧ 2 < to.toInt ∧ at'.toInt < x2.toInt) ∨ 2 < fr.toInt ∨ to.toInt ≤ 2) ∧ ((fr.toInt ≤ 3 ∧ 3 ≤ r.toInt ∧ x3.toInt ≤ at'.toInt) ∨ (r.toInt < 3 ∧ 3 < to.toInt ∧ at'.toInt < x3.toInt) ∨ 3 < fr.toInt ∨ to.toInt ≤ 3) ∧ ((fr.toInt ≤ 4 ∧ 4 ≤ r.toInt ∧ x4.toInt ≤ at'.toInt) ∨ (r.toInt < 4 ∧ 4 < to.toInt ∧ at'.toInt < x4.toInt) ∨ 4 < fr.toInt ∨ to.toInt ≤ 4)) h 0 0 8 #[.val (.ref a), .val (.int fr), .val (.int to), .val (.int at'), .val (.int lo), .val (.int hi), s6] [] := by
  induction n using Nat.strongRecOn with
  | _ n ih =>
    intro lo hi s6 hs6 hn hI
    have k32_1 : (1 : Int32).toInt = 1 := by decide
    refine WP.iload d3_8 rfl (pc' := 10) rfl ?_
    refine WP.iload d3_10 rfl (pc' := 12) rfl ?_
    refine WP.icmpGe d3_12 (tgt := 50) (by decide) (pc' := 15) rfl (fun c12 => ?_) (fun c12 => ?_)
    ·
      refine WP.iload d3_50 rfl (pc' := 52) rfl ?_
      exact WP.retI d3_52 rfl (by decide) (by decide) ⟨rfl, _, rfl, by omega, by omega, by refine ⟨?_, ?_, ?_, ?_, ?_⟩ <;> omega⟩
    refine WP.iload d3_15 rfl (pc' := 17) rfl ?_
    refine WP.iload d3_17 rfl (pc' := 19) rfl ?_
    refine WP.iadd d3_19 (pc' := 20) rfl ?_
    refine WP.iconst d3_20 (z := (1 : Int32)) rfl (pc' := 21) rfl ?_
    refine WP.iadd d3_21 (pc' := 22) rfl ?_
    refine WP.iconst d3_22 (z := (1 : Int32)) rfl (pc' := 23) rfl ?_
    refine WP.iushr d3_23 (pc' := 24) rfl ?_
    obtain ⟨mid, e_mid⟩ : ∃ z, z = (ushr ((lo + hi) + (1 : Int32)) (1 : Int32)) := ⟨_, rfl⟩
    rw [← e_mid]
    refine WP.istore d3_24 (pc' := 26) rfl (ls' := #[.val (.ref a), .val (.int fr), .val (.int to), .val (.int at'), .val (.int lo), .val (.int hi), .val (.int mid)]) ((XS.store1 (o := s6) rfl hs6 rfl).trans rfl) ?_
    refine WP.aloadN d3_26 rfl rfl (pc' := 27) rfl ?_
    refine WP.iload d3_27 rfl (pc' := 29) rfl ?_
    have f1 : (lo + hi).toInt = lo.toInt + hi.toInt := by rw [own_iadd] <;> omega
    have f2 : (lo + hi + (1 : Int32)).toInt = lo.toInt + hi.toInt + 1 := by rw [own_iadd] <;> omega
    have f3 : mid.toInt = (lo.toInt + hi.toInt + 1) % 4294967296 / 2 := by rw [e_mid, ← f2]; exact own_ushr _ 1 1 2 (by decide) (by decide) (by decide)
    clear e_mid
    obtain ⟨i, hi_⟩ : ∃ i : Nat, mid.toInt = (i : Int) := ⟨mid.toInt.toNat, by omega⟩
    obtain ⟨y, hy, hyy⟩ := own_get5 x0 x1 x2 x3 x4 i (by omega)
    refine WP.iaload i d3_29 A_a (x := y) hi_ hy (pc' := 30) rfl ?_
    refine WP.iloadN d3_30 rfl (pc' := 31) rfl ?_
    refine WP.icmpGt d3_31 (tgt := 41) (by decide) (pc' := 34) rfl (fun c31 => ?_) (fun c31 => ?_)
    ·
      refine WP.iload d3_41 rfl (pc' := 43) rfl ?_
      refine WP.iconst d3_43 (z := (1 : Int32)) rfl (pc' := 44) rfl ?_
      refine WP.isub d3_44 (pc' := 45) rfl ?_
      obtain ⟨hm, e_hm⟩ : ∃ z, z = (mid - (1 : Int32)) := ⟨_, rfl⟩
      rw [← e_hm]
      refine WP.istore d3_45 (pc' := 47) rfl (ls' := #[.val (.ref a), .val (.int fr), .val (.int to), .val (.int at'), .val (.int lo), .val (.int hm), .val (.int mid)]) rfl ?_
      refine WP.goto d3_47 (pc' := 8) (by decide) ?_
      have f5 : hm.toInt = mid.toInt - 1 := by rw [e_hm, own_isub] <;> omega
      exact ih (hm.toInt - lo.toInt).toNat (by omega) lo hm _ (One.val rfl) (by omega) (by refine ⟨?_, ?_, ?_, ?_, ?_, ?_, ?_, ?_, ?_, ?_, ?_, ?_⟩ <;> omega)
    refine WP.iload d3_34 rfl (pc' := 36) rfl ?_
    refine WP.istore d3_36 (pc' := 38) rfl (ls' := #[.val (.ref a), .val (.int fr), .val (.int to), .val (.int at'), .val (.int mid), .val (.int hi), .val (.int mid)]) rfl ?_
    refine WP.goto d3_38 (pc' := 47) (by decide) ?_
    refine WP.goto d3_47 (pc' := 8) (by decide) ?_
    exact ih (hi.toInt - mid.toInt).toNat (by omega) mid hi _ (One.val rfl) (by omega) (by refine ⟨?_, ?_, ?_, ?_, ?_, ?_, ?_, ?_, ?_, ?_, ?_, ?_⟩ <;> omega)
theorem lab_met {l : Launch} {Z : State} {a0 : Array Value} (hw : HW Z a0) {n0 : Nat} {h : Heap} (a : Addr) (x0 x1 x2 x3 x4 fr to at' : Int32) (A_a : Av Z h a .int [.int x0, .int x1, .int x2, .int x3, .int x4]) (hs : x0.toInt ≤ x1.toInt ∧ x1.toInt ≤ x2.toInt ∧ x2.toInt ≤ x3.toInt ∧ x3.toInt ≤ x4.toInt) (hb : 0 ≤ fr.toInt ∧ fr.toInt < to.toInt ∧ to.toInt ≤ 5) (hf : (fr.toInt = 0 → x0.toInt ≤ at'.toInt) ∧ (fr.toInt = 1 → x1.toInt ≤ at'.toInt) ∧ (fr.toInt = 2 → x2.toInt ≤ at'.toInt) ∧ (fr.toInt = 3 → x3.toInt ≤ at'.toInt) ∧ (fr.toInt = 4 → x4.toInt ≤ at'.toInt)) : OMet l (⟨"com/example/stampwise/stampwise/history/IntGroups", "lastAtOrBefore", "([IIII)I"⟩ : MethodName) B3 Z n0 #[(.ref a), (.int fr), (.int to), (.int at')] h (fun v h' => h = h' ∧ ∃ r : Int32, v = some (.int r) ∧ fr.toInt ≤ r.toInt ∧ r.toInt < to.toInt ∧ ((fr.toInt ≤ 0 ∧ 0 ≤ r.toInt ∧ x0.toInt ≤ at'.toInt) ∨ (r.toInt < 0 ∧ 0 < to.toInt ∧ at'.toInt < x0.toInt) ∨ 0 < fr.toInt ∨ to.toInt ≤ 0) ∧ ((fr.toInt ≤ 1 ∧ 1 ≤ r.toInt ∧ x1.toInt ≤ at'.toInt) ∨ (r.toInt < 1 ∧ 1 < to.toInt ∧ at'.toInt < x1.toInt) ∨ 1 < fr.toInt ∨ to.toInt ≤ 1) ∧ ((fr.toInt ≤ 2 ∧ 2 ≤ r.toInt ∧ x2.toInt ≤ at'.toInt) ∨ (r.toInt < 2 ∧ 2 < to.toInt ∧ at'.toInt < x2.toInt) ∨ 2 < fr.toInt ∨ to.toInt ≤ 2) ∧ ((fr.toInt ≤ 3 ∧ 3 ≤ r.toInt ∧ x3.toInt ≤ at'.toInt) ∨ (r.toInt < 3 ∧ 3 < to.toInt ∧ at'.toInt < x3.toInt) ∨ 3 < fr.toInt ∨ to.toInt ≤ 3) ∧ ((fr.toInt ≤ 4 ∧ 4 ≤ r.toInt ∧ x4.toInt ≤ at'.toInt) ∨ (r.toInt < 4 ∧ 4 < to.toInt ∧ at'.toInt < x4.toInt) ∨ 4 < fr.toInt ∨ to.toInt ≤ 4)) := by
  refine OMet.of_wp (ls0 := #[.val (.ref a), .val (.int fr), .val (.int to), .val (.int at'), .unset, .unset, .unset]) pl3 rfl rfl (fun m => by first | rfl | (simp [entryFrame, mkF, argsToLocals, Value.category, B3]; done)) ?_
  have k32_1 : (1 : Int32).toInt = 1 := by decide
  refine WP.iloadN d3_0 rfl (pc' := 1) rfl ?_
  refine WP.istore d3_1 (pc' := 3) rfl (ls' := #[.val (.ref a), .val (.int fr), .val (.int to), .val (.int at'), .val (.int fr), .unset, .unset]) rfl ?_
  refine WP.iloadN d3_3 rfl (pc' := 4) rfl ?_
  refine WP.iconst d3_4 (z := (1 : Int32)) rfl (pc' := 5) rfl ?_
  refine WP.isub d3_5 (pc' := 6) rfl ?_
  obtain ⟨hi, e_hi⟩ : ∃ z, z = (to - (1 : Int32)) := ⟨_, rfl⟩
  rw [← e_hi]
  refine WP.istore d3_6 (pc' := 8) rfl (ls' := #[.val (.ref a), .val (.int fr), .val (.int to), .val (.int at'), .val (.int fr), .val (.int hi), .unset]) rfl ?_
  have f1 : hi.toInt = to.toInt - 1 := by rw [e_hi, own_isub] <;> omega
  exact lab_8 hw a x0 x1 x2 x3 x4 fr to at' A_a hs hb (hi.toInt - fr.toInt).toNat fr hi _ One.u (by omega) (by refine ⟨?_, ?_, ?_, ?_, ?_, ?_, ?_, ?_, ?_, ?_, ?_, ?_⟩ <;> omega)
theorem law_295 {l : Launch} {Z : State} {a0 : Array Value} (hw : HW Z a0) {n0 : Nat} {h : Heap} (p q : Int64) (r ati ctl : Int32) (b1 : Addr) (x0 x1 x2 x3 x4 fr to at' : Int32) (A_b1 : Av Z h b1 .int [.int x0, .int x1, .int x2, .int x3, .int x4]) (hb : 0 ≤ fr.toInt ∧ fr.toInt < to.toInt ∧ to.toInt ≤ 5) (g wt : Int32) (hW : fr.toInt ≤ g.toInt ∧ g.toInt < to.toInt ∧ (g.toInt ≤ 4 → wt.toInt = g.toInt) ∧ (4 < g.toInt → fr.toInt ≤ 4 → wt.toInt = 4) ∧ (4 < fr.toInt → wt.toInt = fr.toInt)) : WP l B0 Z n0 (fun v h' => v = some (.int 1)) h 1 5 295 #[.val (.long p), .second, .val (.long q), .second, .val (.int r), .val (.int ati), .val (.int ctl), .val (.ref b1), .val (.int fr), .val (.int to), .val (.int at'), .val (.int g), .val (.int wt)] [] := by
  have k32_0 : (0 : Int32).toInt = 0 := by decide
  have k32_1 : (1 : Int32).toInt = 1 := by decide
  refine WP.iload at_295 rfl (pc' := 297) rfl ?_
  refine WP.iload at_297 rfl (pc' := 299) rfl ?_
  refine WP.icmpNe at_299 (tgt := 306) (by decide) (pc' := 302) rfl (fun c299 => ?_) (fun c299 => ?_)
  ·
    refine WP.iconst at_306 (z := (0 : Int32)) rfl (pc' := 307) rfl ?_
    exact WP.retN at_307 (t := .boolean) rfl (by simp) (by decide) (by decide) (by exfalso; omega)
  refine WP.iconst at_302 (z := (1 : Int32)) rfl (pc' := 303) rfl ?_
  refine WP.goto at_303 (pc' := 307) (by decide) ?_
  exact WP.retN at_307 (t := .boolean) rfl (by simp) (by decide) (by decide) own_q1
theorem law_271 {l : Launch} {Z : State} {a0 : Array Value} (hw : HW Z a0) {n0 : Nat} {h : Heap} (p q : Int64) (r ati ctl : Int32) (b1 : Addr) (x0 x1 x2 x3 x4 fr to at' : Int32) (A_b1 : Av Z h b1 .int [.int x0, .int x1, .int x2, .int x3, .int x4]) (hb : 0 ≤ fr.toInt ∧ fr.toInt < to.toInt ∧ to.toInt ≤ 5) (g wt : Int32) (hD4 : ((fr.toInt ≤ 4 ∧ 4 ≤ g.toInt ∧ x4.toInt ≤ at'.toInt) ∨ (g.toInt < 4 ∧ 4 < to.toInt ∧ at'.toInt < x4.toInt) ∨ 4 < fr.toInt ∨ to.toInt ≤ 4)) (hW : fr.toInt ≤ g.toInt ∧ g.toInt < to.toInt ∧ (g.toInt ≤ 3 → wt.toInt = g.toInt) ∧ (3 < g.toInt → fr.toInt ≤ 3 → wt.toInt = 3) ∧ (3 < fr.toInt → wt.toInt = fr.toInt)) : WP l B0 Z n0 (fun v h' => v = some (.int 1)) h 1 5 271 #[.val (.long p), .second, .val (.long q), .second, .val (.int r), .val (.int ati), .val (.int ctl), .val (.ref b1), .val (.int fr), .val (.int to), .val (.int at'), .val (.int g), .val (.int wt)] [] := by
  have k32_4 : (4 : Int32).toInt = 4 := by decide
  refine WP.iload at_271 rfl (pc' := 273) rfl ?_
  refine WP.iconst at_273 (z := (4 : Int32)) rfl (pc' := 274) rfl ?_
  refine WP.icmpGt at_274 (tgt := 295) (by decide) (pc' := 277) rfl (fun c274 => ?_) (fun c274 => ?_)
  ·
    exact law_295 hw p q r ati ctl b1 x0 x1 x2 x3 x4 fr to at' A_b1 hb g wt (by omega)
  refine WP.iconst at_277 (z := (4 : Int32)) rfl (pc' := 278) rfl ?_
  refine WP.iload at_278 rfl (pc' := 280) rfl ?_
  refine WP.icmpGe at_280 (tgt := 295) (by decide) (pc' := 283) rfl (fun c280 => ?_) (fun c280 => ?_)
  ·
    exact law_295 hw p q r ati ctl b1 x0 x1 x2 x3 x4 fr to at' A_b1 hb g wt (by omega)
  refine WP.aload at_283 rfl rfl (pc' := 285) rfl ?_
  refine WP.iconst at_285 (z := (4 : Int32)) rfl (pc' := 286) rfl ?_
  refine WP.iaload 4 at_286 A_b1 (x := x4) rfl rfl (pc' := 287) rfl ?_
  refine WP.iload at_287 rfl (pc' := 289) rfl ?_
  refine WP.icmpGt at_289 (tgt := 295) (by decide) (pc' := 292) rfl (fun c289 => ?_) (fun c289 => ?_)
  ·
    exact law_295 hw p q r ati ctl b1 x0 x1 x2 x3 x4 fr to at' A_b1 hb g wt (by omega)
  refine WP.iconst at_292 (z := (4 : Int32)) rfl (pc' := 293) rfl ?_
  refine WP.istore at_293 (pc' := 295) rfl (ls' := #[.val (.long p), .second, .val (.long q), .second, .val (.int r), .val (.int ati), .val (.int ctl), .val (.ref b1), .val (.int fr), .val (.int to), .val (.int at'), .val (.int g), .val (.int (4 : Int32))]) rfl ?_
  exact law_295 hw p q r ati ctl b1 x0 x1 x2 x3 x4 fr to at' A_b1 hb g (4 : Int32) (by omega)
theorem law_247 {l : Launch} {Z : State} {a0 : Array Value} (hw : HW Z a0) {n0 : Nat} {h : Heap} (p q : Int64) (r ati ctl : Int32) (b1 : Addr) (x0 x1 x2 x3 x4 fr to at' : Int32) (A_b1 : Av Z h b1 .int [.int x0, .int x1, .int x2, .int x3, .int x4]) (hb : 0 ≤ fr.toInt ∧ fr.toInt < to.toInt ∧ to.toInt ≤ 5) (g wt : Int32) (hD3 : ((fr.toInt ≤ 3 ∧ 3 ≤ g.toInt ∧ x3.toInt ≤ at'.toInt) ∨ (g.toInt < 3 ∧ 3 < to.toInt ∧ at'.toInt < x3.toInt) ∨ 3 < fr.toInt ∨ to.toInt ≤ 3)) (hD4 : ((fr.toInt ≤ 4 ∧ 4 ≤ g.toInt ∧ x4.toInt ≤ at'.toInt) ∨ (g.toInt < 4 ∧ 4 < to.toInt ∧ at'.toInt < x4.toInt) ∨ 4 < fr.toInt ∨ to.toInt ≤ 4)) (hW : fr.toInt ≤ g.toInt ∧ g.toInt < to.toInt ∧ (g.toInt ≤ 2 → wt.toInt = g.toInt) ∧ (2 < g.toInt → fr.toInt ≤ 2 → wt.toInt = 2) ∧ (2 < fr.toInt → wt.toInt = fr.toInt)) : WP l B0 Z n0 (fun v h' => v = some (.int 1)) h 1 5 247 #[.val (.long p), .second, .val (.long q), .second, .val (.int r), .val (.int ati), .val (.int ctl), .val (.ref b1), .val (.int fr), .val (.int to), .val (.int at'), .val (.int g), .val (.int wt)] [] := by
  have k32_3 : (3 : Int32).toInt = 3 := by decide
  refine WP.iload at_247 rfl (pc' := 249) rfl ?_
  refine WP.iconst at_249 (z := (3 : Int32)) rfl (pc' := 250) rfl ?_
  refine WP.icmpGt at_250 (tgt := 271) (by decide) (pc' := 253) rfl (fun c250 => ?_) (fun c250 => ?_)
  ·
    exact law_271 hw p q r ati ctl b1 x0 x1 x2 x3 x4 fr to at' A_b1 hb g wt hD4 (by omega)
  refine WP.iconst at_253 (z := (3 : Int32)) rfl (pc' := 254) rfl ?_
  refine WP.iload at_254 rfl (pc' := 256) rfl ?_
  refine WP.icmpGe at_256 (tgt := 271) (by decide) (pc' := 259) rfl (fun c256 => ?_) (fun c256 => ?_)
  ·
    exact law_271 hw p q r ati ctl b1 x0 x1 x2 x3 x4 fr to at' A_b1 hb g wt hD4 (by omega)
  refine WP.aload at_259 rfl rfl (pc' := 261) rfl ?_
  refine WP.iconst at_261 (z := (3 : Int32)) rfl (pc' := 262) rfl ?_
  refine WP.iaload 3 at_262 A_b1 (x := x3) rfl rfl (pc' := 263) rfl ?_
  refine WP.iload at_263 rfl (pc' := 265) rfl ?_
  refine WP.icmpGt at_265 (tgt := 271) (by decide) (pc' := 268) rfl (fun c265 => ?_) (fun c265 => ?_)
  ·
    exact law_271 hw p q r ati ctl b1 x0 x1 x2 x3 x4 fr to at' A_b1 hb g wt hD4 (by omega)
  refine WP.iconst at_268 (z := (3 : Int32)) rfl (pc' := 269) rfl ?_
  refine WP.istore at_269 (pc' := 271) rfl (ls' := #[.val (.long p), .second, .val (.long q), .second, .val (.int r), .val (.int ati), .val (.int ctl), .val (.ref b1), .val (.int fr), .val (.int to), .val (.int at'), .val (.int g), .val (.int (3 : Int32))]) rfl ?_
  exact law_271 hw p q r ati ctl b1 x0 x1 x2 x3 x4 fr to at' A_b1 hb g (3 : Int32) hD4 (by omega)
theorem law_223 {l : Launch} {Z : State} {a0 : Array Value} (hw : HW Z a0) {n0 : Nat} {h : Heap} (p q : Int64) (r ati ctl : Int32) (b1 : Addr) (x0 x1 x2 x3 x4 fr to at' : Int32) (A_b1 : Av Z h b1 .int [.int x0, .int x1, .int x2, .int x3, .int x4]) (hb : 0 ≤ fr.toInt ∧ fr.toInt < to.toInt ∧ to.toInt ≤ 5) (g wt : Int32) (hD2 : ((fr.toInt ≤ 2 ∧ 2 ≤ g.toInt ∧ x2.toInt ≤ at'.toInt) ∨ (g.toInt < 2 ∧ 2 < to.toInt ∧ at'.toInt < x2.toInt) ∨ 2 < fr.toInt ∨ to.toInt ≤ 2)) (hD3 : ((fr.toInt ≤ 3 ∧ 3 ≤ g.toInt ∧ x3.toInt ≤ at'.toInt) ∨ (g.toInt < 3 ∧ 3 < to.toInt ∧ at'.toInt < x3.toInt) ∨ 3 < fr.toInt ∨ to.toInt ≤ 3)) (hD4 : ((fr.toInt ≤ 4 ∧ 4 ≤ g.toInt ∧ x4.toInt ≤ at'.toInt) ∨ (g.toInt < 4 ∧ 4 < to.toInt ∧ at'.toInt < x4.toInt) ∨ 4 < fr.toInt ∨ to.toInt ≤ 4)) (hW : fr.toInt ≤ g.toInt ∧ g.toInt < to.toInt ∧ (g.toInt ≤ 1 → wt.toInt = g.toInt) ∧ (1 < g.toInt → fr.toInt ≤ 1 → wt.toInt = 1) ∧ (1 < fr.toInt → wt.toInt = fr.toInt)) : WP l B0 Z n0 (fun v h' => v = some (.int 1)) h 1 5 223 #[.val (.long p), .second, .val (.long q), .second, .val (.int r), .val (.int ati), .val (.int ctl), .val (.ref b1), .val (.int fr), .val (.int to), .val (.int at'), .val (.int g), .val (.int wt)] [] := by
  have k32_2 : (2 : Int32).toInt = 2 := by decide
  refine WP.iload at_223 rfl (pc' := 225) rfl ?_
  refine WP.iconst at_225 (z := (2 : Int32)) rfl (pc' := 226) rfl ?_
  refine WP.icmpGt at_226 (tgt := 247) (by decide) (pc' := 229) rfl (fun c226 => ?_) (fun c226 => ?_)
  ·
    exact law_247 hw p q r ati ctl b1 x0 x1 x2 x3 x4 fr to at' A_b1 hb g wt hD3 hD4 (by omega)
  refine WP.iconst at_229 (z := (2 : Int32)) rfl (pc' := 230) rfl ?_
  refine WP.iload at_230 rfl (pc' := 232) rfl ?_
  refine WP.icmpGe at_232 (tgt := 247) (by decide) (pc' := 235) rfl (fun c232 => ?_) (fun c232 => ?_)
  ·
    exact law_247 hw p q r ati ctl b1 x0 x1 x2 x3 x4 fr to at' A_b1 hb g wt hD3 hD4 (by omega)
  refine WP.aload at_235 rfl rfl (pc' := 237) rfl ?_
  refine WP.iconst at_237 (z := (2 : Int32)) rfl (pc' := 238) rfl ?_
  refine WP.iaload 2 at_238 A_b1 (x := x2) rfl rfl (pc' := 239) rfl ?_
  refine WP.iload at_239 rfl (pc' := 241) rfl ?_
  refine WP.icmpGt at_241 (tgt := 247) (by decide) (pc' := 244) rfl (fun c241 => ?_) (fun c241 => ?_)
  ·
    exact law_247 hw p q r ati ctl b1 x0 x1 x2 x3 x4 fr to at' A_b1 hb g wt hD3 hD4 (by omega)
  refine WP.iconst at_244 (z := (2 : Int32)) rfl (pc' := 245) rfl ?_
  refine WP.istore at_245 (pc' := 247) rfl (ls' := #[.val (.long p), .second, .val (.long q), .second, .val (.int r), .val (.int ati), .val (.int ctl), .val (.ref b1), .val (.int fr), .val (.int to), .val (.int at'), .val (.int g), .val (.int (2 : Int32))]) rfl ?_
  exact law_247 hw p q r ati ctl b1 x0 x1 x2 x3 x4 fr to at' A_b1 hb g (2 : Int32) hD3 hD4 (by omega)
theorem law_199 {l : Launch} {Z : State} {a0 : Array Value} (hw : HW Z a0) {n0 : Nat} {h : Heap} (p q : Int64) (r ati ctl : Int32) (b1 : Addr) (x0 x1 x2 x3 x4 fr to at' : Int32) (A_b1 : Av Z h b1 .int [.int x0, .int x1, .int x2, .int x3, .int x4]) (hb : 0 ≤ fr.toInt ∧ fr.toInt < to.toInt ∧ to.toInt ≤ 5) (g wt : Int32) (hD1 : ((fr.toInt ≤ 1 ∧ 1 ≤ g.toInt ∧ x1.toInt ≤ at'.toInt) ∨ (g.toInt < 1 ∧ 1 < to.toInt ∧ at'.toInt < x1.toInt) ∨ 1 < fr.toInt ∨ to.toInt ≤ 1)) (hD2 : ((fr.toInt ≤ 2 ∧ 2 ≤ g.toInt ∧ x2.toInt ≤ at'.toInt) ∨ (g.toInt < 2 ∧ 2 < to.toInt ∧ at'.toInt < x2.toInt) ∨ 2 < fr.toInt ∨ to.toInt ≤ 2)) (hD3 : ((fr.toInt ≤ 3 ∧ 3 ≤ g.toInt ∧ x3.toInt ≤ at'.toInt) ∨ (g.toInt < 3 ∧ 3 < to.toInt ∧ at'.toInt < x3.toInt) ∨ 3 < fr.toInt ∨ to.toInt ≤ 3)) (hD4 : ((fr.toInt ≤ 4 ∧ 4 ≤ g.toInt ∧ x4.toInt ≤ at'.toInt) ∨ (g.toInt < 4 ∧ 4 < to.toInt ∧ at'.toInt < x4.toInt) ∨ 4 < fr.toInt ∨ to.toInt ≤ 4)) (hW : fr.toInt ≤ g.toInt ∧ g.toInt < to.toInt ∧ (g.toInt ≤ 0 → wt.toInt = g.toInt) ∧ (0 < g.toInt → fr.toInt ≤ 0 → wt.toInt = 0) ∧ (0 < fr.toInt → wt.toInt = fr.toInt)) : WP l B0 Z n0 (fun v h' => v = some (.int 1)) h 1 5 199 #[.val (.long p), .second, .val (.long q), .second, .val (.int r), .val (.int ati), .val (.int ctl), .val (.ref b1), .val (.int fr), .val (.int to), .val (.int at'), .val (.int g), .val (.int wt)] [] := by
  have k32_1 : (1 : Int32).toInt = 1 := by decide
  refine WP.iload at_199 rfl (pc' := 201) rfl ?_
  refine WP.iconst at_201 (z := (1 : Int32)) rfl (pc' := 202) rfl ?_
  refine WP.icmpGt at_202 (tgt := 223) (by decide) (pc' := 205) rfl (fun c202 => ?_) (fun c202 => ?_)
  ·
    exact law_223 hw p q r ati ctl b1 x0 x1 x2 x3 x4 fr to at' A_b1 hb g wt hD2 hD3 hD4 (by omega)
  refine WP.iconst at_205 (z := (1 : Int32)) rfl (pc' := 206) rfl ?_
  refine WP.iload at_206 rfl (pc' := 208) rfl ?_
  refine WP.icmpGe at_208 (tgt := 223) (by decide) (pc' := 211) rfl (fun c208 => ?_) (fun c208 => ?_)
  ·
    exact law_223 hw p q r ati ctl b1 x0 x1 x2 x3 x4 fr to at' A_b1 hb g wt hD2 hD3 hD4 (by omega)
  refine WP.aload at_211 rfl rfl (pc' := 213) rfl ?_
  refine WP.iconst at_213 (z := (1 : Int32)) rfl (pc' := 214) rfl ?_
  refine WP.iaload 1 at_214 A_b1 (x := x1) rfl rfl (pc' := 215) rfl ?_
  refine WP.iload at_215 rfl (pc' := 217) rfl ?_
  refine WP.icmpGt at_217 (tgt := 223) (by decide) (pc' := 220) rfl (fun c217 => ?_) (fun c217 => ?_)
  ·
    exact law_223 hw p q r ati ctl b1 x0 x1 x2 x3 x4 fr to at' A_b1 hb g wt hD2 hD3 hD4 (by omega)
  refine WP.iconst at_220 (z := (1 : Int32)) rfl (pc' := 221) rfl ?_
  refine WP.istore at_221 (pc' := 223) rfl (ls' := #[.val (.long p), .second, .val (.long q), .second, .val (.int r), .val (.int ati), .val (.int ctl), .val (.ref b1), .val (.int fr), .val (.int to), .val (.int at'), .val (.int g), .val (.int (1 : Int32))]) rfl ?_
  exact law_223 hw p q r ati ctl b1 x0 x1 x2 x3 x4 fr to at' A_b1 hb g (1 : Int32) hD2 hD3 hD4 (by omega)
theorem law_170 {l : Launch} {Z : State} {a0 : Array Value} (hw : HW Z a0) {n0 : Nat} {h : Heap} (p q : Int64) (r ati ctl : Int32) (b1 : Addr) (x0 x1 x2 x3 x4 fr to at0 : Int32) (A_b1 : Av Z h b1 .int [.int x0, .int x1, .int x2, .int x3, .int x4]) (hb : 0 ≤ fr.toInt ∧ fr.toInt < to.toInt ∧ to.toInt ≤ 5) (hs : x0.toInt ≤ x1.toInt ∧ x1.toInt ≤ x2.toInt ∧ x2.toInt ≤ x3.toInt ∧ x3.toInt ≤ x4.toInt) : WP l B0 Z n0 (fun v h' => v = some (.int 1)) h 1 5 170 #[.val (.long p), .second, .val (.long q), .second, .val (.int r), .val (.int ati), .val (.int ctl), .val (.ref b1), .val (.int fr), .val (.int to), .val (.int at0), .unset, .unset] [] := by
  refine WP.iload at_170 rfl (pc' := 172) rfl ?_
  refine WP.aload at_172 rfl rfl (pc' := 174) rfl ?_
  refine WP.iload at_174 rfl (pc' := 176) rfl ?_
  obtain ⟨i, hi_⟩ : ∃ i : Nat, fr.toInt = (i : Int) := ⟨fr.toInt.toNat, by omega⟩
  obtain ⟨y, hy, hyy⟩ := own_get5 x0 x1 x2 x3 x4 i (by omega)
  refine WP.iaload i at_176 A_b1 (x := y) hi_ hy (pc' := 177) rfl ?_
  refine WP.callS (y := (⟨"java/lang/Math", "max", "(II)I"⟩ : MethodName)) (By := B2) (as := [(.int at0), (.int y)]) (rest := []) at_177 (w5 hw) (w6 hw) (w7 hw) (w8 hw) (by decide) (max_met hw at0 y) pd_0 rfl rfl rfl (by decide) (Nat.le_of_ble_eq_true rfl) (by decide) (by decide) (pc' := 180) rfl ?_
  rintro _ _ ⟨rfl, at', rfl, hm⟩
  show WP _ _ _ _ _ _ _ _ _ _ [(.int at')]
  refine WP.istore at_180 (pc' := 182) rfl (ls' := #[.val (.long p), .second, .val (.long q), .second, .val (.int r), .val (.int ati), .val (.int ctl), .val (.ref b1), .val (.int fr), .val (.int to), .val (.int at'), .unset, .unset]) rfl ?_
  refine WP.aload at_182 rfl rfl (pc' := 184) rfl ?_
  refine WP.iload at_184 rfl (pc' := 186) rfl ?_
  refine WP.iload at_186 rfl (pc' := 188) rfl ?_
  refine WP.iload at_188 rfl (pc' := 190) rfl ?_
  refine WP.callS (y := (⟨"com/example/stampwise/stampwise/history/IntGroups", "lastAtOrBefore", "([IIII)I"⟩ : MethodName)) (By := B3) (as := [(.ref b1), (.int fr), (.int to), (.int at')]) (rest := []) at_190 (w9 hw) (w10 hw) (w11 hw) (w12 hw) (by decide) (lab_met hw b1 x0 x1 x2 x3 x4 fr to at' A_b1 hs hb (by refine ⟨?_, ?_, ?_, ?_, ?_⟩ <;> omega)) pd_1 rfl rfl rfl (by decide) (Nat.le_of_ble_eq_true rfl) (by decide) (by decide) (pc' := 193) rfl ?_
  rintro _ _ ⟨rfl, g, rfl, hg1, hg2, hD0, hD1, hD2, hD3, hD4⟩
  show WP _ _ _ _ _ _ _ _ _ _ [(.int g)]
  refine WP.istore at_193 (pc' := 195) rfl (ls' := #[.val (.long p), .second, .val (.long q), .second, .val (.int r), .val (.int ati), .val (.int ctl), .val (.ref b1), .val (.int fr), .val (.int to), .val (.int at'), .val (.int g), .unset]) rfl ?_
  refine WP.iload at_195 rfl (pc' := 197) rfl ?_
  refine WP.istore at_197 (pc' := 199) rfl (ls' := #[.val (.long p), .second, .val (.long q), .second, .val (.int r), .val (.int ati), .val (.int ctl), .val (.ref b1), .val (.int fr), .val (.int to), .val (.int at'), .val (.int g), .val (.int fr)]) rfl ?_
  exact law_199 hw p q r ati ctl b1 x0 x1 x2 x3 x4 fr to at' A_b1 hb g fr hD1 hD2 hD3 hD4 (by omega)
theorem law_met {l : Launch} {Z : State} {a0 : Array Value} (hw : HW Z a0) {n0 : Nat} {h : Heap} (p q : Int64) (r ati ctl : Int32) : OMet l x B0 Z n0 #[(.long p), (.long q), (.int r), (.int ati), (.int ctl)] h (fun v h' => v = some (.int 1)) := by
  refine OMet.of_wp (ls0 := #[.val (.long p), .second, .val (.long q), .second, .val (.int r), .val (.int ati), .val (.int ctl), .unset, .unset, .unset, .unset, .unset, .unset]) pl0 rfl rfl (fun m => by first | rfl | (simp [entryFrame, mkF, argsToLocals, Value.category, B0]; done)) ?_
  have k32_0 : (0 : Int32).toInt = 0 := by decide
  have k32_1 : (1 : Int32).toInt = 1 := by decide
  have k32_2 : (2 : Int32).toInt = 2 := by decide
  have k32_3 : (3 : Int32).toInt = 3 := by decide
  have k32_4 : (4 : Int32).toInt = 4 := by decide
  have k32_5 : (5 : Int32).toInt = 5 := by decide
  have k32_6 : (6 : Int32).toInt = 6 := by decide
  have k32_7 : (7 : Int32).toInt = 7 := by decide
  have k32_8 : (8 : Int32).toInt = 8 := by decide
  have k32_9 : (9 : Int32).toInt = 9 := by decide
  have k32_10 : (10 : Int32).toInt = 10 := by decide
  have k32_11 : (11 : Int32).toInt = 11 := by decide
  have k32_14 : (14 : Int32).toInt = 14 := by decide
  have k32_32 : (32 : Int32).toInt = 32 := by decide
  refine WP.iconst at_0 (z := (5 : Int32)) rfl (pc' := 1) rfl ?_
  refine WP.newarr at_1 (w0 hw) (k := 5) rfl 5 (by decide) (by decide) (by decide) (by decide) (pc' := 3) rfl ?_
  intro b1 h1 eb_b1 g_b1 K2 A_b1
  replace A_b1 : Av Z h1 b1 .int [.int 0, .int 0, .int 0, .int 0, .int 0] := A_b1
  refine WP.astore at_3 (pc' := 5) rfl rfl (ls' := #[.val (.long p), .second, .val (.long q), .second, .val (.int r), .val (.int ati), .val (.int ctl), .val (.ref b1), .unset, .unset, .unset, .unset, .unset]) rfl ?_
  refine WP.aload at_5 rfl rfl (pc' := 7) rfl ?_
  refine WP.iconst at_7 (z := (0 : Int32)) rfl (pc' := 8) rfl ?_
  refine WP.lloadN at_8 rfl (pc' := 9) rfl ?_
  refine WP.l2i at_9 (pc' := 10) rfl ?_
  refine WP.iastore 0 at_10 A_b1 rfl (Nat.le_of_ble_eq_true rfl) g_b1 (pc' := 11) rfl ?_
  intro h3 K4 A_n
  replace A_b1 : Av Z h3 b1 .int [(.int p.toInt32), (.int 0), (.int 0), (.int 0), (.int 0)] := A_n
  clear A_n
  refine WP.aload at_11 rfl rfl (pc' := 13) rfl ?_
  refine WP.iconst at_13 (z := (1 : Int32)) rfl (pc' := 14) rfl ?_
  refine WP.aload at_14 rfl rfl (pc' := 16) rfl ?_
  refine WP.iconst at_16 (z := (0 : Int32)) rfl (pc' := 17) rfl ?_
  refine WP.iaload 0 at_17 A_b1 (x := p.toInt32) rfl rfl (pc' := 18) rfl ?_
  refine WP.lloadN at_18 rfl (pc' := 19) rfl ?_
  refine WP.bipush at_19 (z := (32 : Int32)) rfl (pc' := 21) rfl ?_
  refine WP.lushr at_21 (pc' := 22) rfl ?_
  refine WP.l2i at_22 (pc' := 23) rfl ?_
  refine WP.iload at_23 rfl (pc' := 25) rfl ?_
  refine WP.bipush at_25 (z := (6 : Int32)) rfl (pc' := 27) rfl ?_
  refine WP.iushr at_27 (pc' := 28) rfl ?_
  refine WP.iconst at_28 (z := (1 : Int32)) rfl (pc' := 29) rfl ?_
  refine WP.iand at_29 (pc' := 30) rfl ?_
  refine WP.callS (y := (⟨"com/example/stampwise/stampwise/history/IntGroupsLastAtOrBeforePinLaw", "next", "(III)I"⟩ : MethodName)) (By := B1) (as := [(.int p.toInt32), (.int (ushrL p (32 : Int32)).toInt32), (.int ((ushr ctl (6 : Int32)) &&& (1 : Int32)))]) (rest := [(.int (1 : Int32)), (.ref b1)]) at_30 (w1 hw) (w2 hw) (w3 hw) (w4 hw) (by decide) (next_met hw p.toInt32 (ushrL p (32 : Int32)).toInt32 ((ushr ctl (6 : Int32)) &&& (1 : Int32))) pd_2 rfl rfl rfl (by decide) (Nat.le_of_ble_eq_true rfl) (by decide) (by decide) (pc' := 33) rfl ?_
  rintro _ _ ⟨rfl, x1, rfl, hx1⟩
  show WP _ _ _ _ _ _ _ _ _ _ [(.int x1), (.int (1 : Int32)), (.ref b1)]
  refine WP.iastore 1 at_33 A_b1 rfl (Nat.le_of_ble_eq_true rfl) g_b1 (pc' := 34) rfl ?_
  intro h6 K7 A_n
  replace A_b1 : Av Z h6 b1 .int [(.int p.toInt32), (.int x1), (.int 0), (.int 0), (.int 0)] := A_n
  clear A_n
  refine WP.aload at_34 rfl rfl (pc' := 36) rfl ?_
  refine WP.iconst at_36 (z := (2 : Int32)) rfl (pc' := 37) rfl ?_
  refine WP.aload at_37 rfl rfl (pc' := 39) rfl ?_
  refine WP.iconst at_39 (z := (1 : Int32)) rfl (pc' := 40) rfl ?_
  refine WP.iaload 1 at_40 A_b1 (x := x1) rfl rfl (pc' := 41) rfl ?_
  refine WP.lloadN at_41 rfl (pc' := 42) rfl ?_
  refine WP.l2i at_42 (pc' := 43) rfl ?_
  refine WP.iload at_43 rfl (pc' := 45) rfl ?_
  refine WP.bipush at_45 (z := (7 : Int32)) rfl (pc' := 47) rfl ?_
  refine WP.iushr at_47 (pc' := 48) rfl ?_
  refine WP.iconst at_48 (z := (1 : Int32)) rfl (pc' := 49) rfl ?_
  refine WP.iand at_49 (pc' := 50) rfl ?_
  refine WP.callS (y := (⟨"com/example/stampwise/stampwise/history/IntGroupsLastAtOrBeforePinLaw", "next", "(III)I"⟩ : MethodName)) (By := B1) (as := [(.int x1), (.int q.toInt32), (.int ((ushr ctl (7 : Int32)) &&& (1 : Int32)))]) (rest := [(.int (2 : Int32)), (.ref b1)]) at_50 (w1 hw) (w2 hw) (w3 hw) (w4 hw) (by decide) (next_met hw x1 q.toInt32 ((ushr ctl (7 : Int32)) &&& (1 : Int32))) pd_2 rfl rfl rfl (by decide) (Nat.le_of_ble_eq_true rfl) (by decide) (by decide) (pc' := 53) rfl ?_
  rintro _ _ ⟨rfl, x2, rfl, hx2⟩
  show WP _ _ _ _ _ _ _ _ _ _ [(.int x2), (.int (2 : Int32)), (.ref b1)]
  refine WP.iastore 2 at_53 A_b1 rfl (Nat.le_of_ble_eq_true rfl) g_b1 (pc' := 54) rfl ?_
  intro h9 K10 A_n
  replace A_b1 : Av Z h9 b1 .int [(.int p.toInt32), (.int x1), (.int x2), (.int 0), (.int 0)] := A_n
  clear A_n
  refine WP.aload at_54 rfl rfl (pc' := 56) rfl ?_
  refine WP.iconst at_56 (z := (3 : Int32)) rfl (pc' := 57) rfl ?_
  refine WP.aload at_57 rfl rfl (pc' := 59) rfl ?_
  refine WP.iconst at_59 (z := (2 : Int32)) rfl (pc' := 60) rfl ?_
  refine WP.iaload 2 at_60 A_b1 (x := x2) rfl rfl (pc' := 61) rfl ?_
  refine WP.lloadN at_61 rfl (pc' := 62) rfl ?_
  refine WP.bipush at_62 (z := (32 : Int32)) rfl (pc' := 64) rfl ?_
  refine WP.lushr at_64 (pc' := 65) rfl ?_
  refine WP.l2i at_65 (pc' := 66) rfl ?_
  refine WP.iload at_66 rfl (pc' := 68) rfl ?_
  refine WP.bipush at_68 (z := (8 : Int32)) rfl (pc' := 70) rfl ?_
  refine WP.iushr at_70 (pc' := 71) rfl ?_
  refine WP.iconst at_71 (z := (1 : Int32)) rfl (pc' := 72) rfl ?_
  refine WP.iand at_72 (pc' := 73) rfl ?_
  refine WP.callS (y := (⟨"com/example/stampwise/stampwise/history/IntGroupsLastAtOrBeforePinLaw", "next", "(III)I"⟩ : MethodName)) (By := B1) (as := [(.int x2), (.int (ushrL q (32 : Int32)).toInt32), (.int ((ushr ctl (8 : Int32)) &&& (1 : Int32)))]) (rest := [(.int (3 : Int32)), (.ref b1)]) at_73 (w1 hw) (w2 hw) (w3 hw) (w4 hw) (by decide) (next_met hw x2 (ushrL q (32 : Int32)).toInt32 ((ushr ctl (8 : Int32)) &&& (1 : Int32))) pd_2 rfl rfl rfl (by decide) (Nat.le_of_ble_eq_true rfl) (by decide) (by decide) (pc' := 76) rfl ?_
  rintro _ _ ⟨rfl, x3, rfl, hx3⟩
  show WP _ _ _ _ _ _ _ _ _ _ [(.int x3), (.int (3 : Int32)), (.ref b1)]
  refine WP.iastore 3 at_76 A_b1 rfl (Nat.le_of_ble_eq_true rfl) g_b1 (pc' := 77) rfl ?_
  intro h12 K13 A_n
  replace A_b1 : Av Z h12 b1 .int [(.int p.toInt32), (.int x1), (.int x2), (.int x3), (.int 0)] := A_n
  clear A_n
  refine WP.aload at_77 rfl rfl (pc' := 79) rfl ?_
  refine WP.iconst at_79 (z := (4 : Int32)) rfl (pc' := 80) rfl ?_
  refine WP.aload at_80 rfl rfl (pc' := 82) rfl ?_
  refine WP.iconst at_82 (z := (3 : Int32)) rfl (pc' := 83) rfl ?_
  refine WP.iaload 3 at_83 A_b1 (x := x3) rfl rfl (pc' := 84) rfl ?_
  refine WP.iload at_84 rfl (pc' := 86) rfl ?_
  refine WP.iload at_86 rfl (pc' := 88) rfl ?_
  refine WP.bipush at_88 (z := (9 : Int32)) rfl (pc' := 90) rfl ?_
  refine WP.iushr at_90 (pc' := 91) rfl ?_
  refine WP.iconst at_91 (z := (1 : Int32)) rfl (pc' := 92) rfl ?_
  refine WP.iand at_92 (pc' := 93) rfl ?_
  refine WP.callS (y := (⟨"com/example/stampwise/stampwise/history/IntGroupsLastAtOrBeforePinLaw", "next", "(III)I"⟩ : MethodName)) (By := B1) (as := [(.int x3), (.int r), (.int ((ushr ctl (9 : Int32)) &&& (1 : Int32)))]) (rest := [(.int (4 : Int32)), (.ref b1)]) at_93 (w1 hw) (w2 hw) (w3 hw) (w4 hw) (by decide) (next_met hw x3 r ((ushr ctl (9 : Int32)) &&& (1 : Int32))) pd_2 rfl rfl rfl (by decide) (Nat.le_of_ble_eq_true rfl) (by decide) (by decide) (pc' := 96) rfl ?_
  rintro _ _ ⟨rfl, x4, rfl, hx4⟩
  show WP _ _ _ _ _ _ _ _ _ _ [(.int x4), (.int (4 : Int32)), (.ref b1)]
  refine WP.iastore 4 at_96 A_b1 rfl (Nat.le_of_ble_eq_true rfl) g_b1 (pc' := 97) rfl ?_
  intro h15 K16 A_n
  replace A_b1 : Av Z h15 b1 .int [(.int p.toInt32), (.int x1), (.int x2), (.int x3), (.int x4)] := A_n
  clear A_n
  refine WP.iload at_97 rfl (pc' := 99) rfl ?_
  refine WP.bipush at_99 (z := (7 : Int32)) rfl (pc' := 101) rfl ?_
  refine WP.iand at_101 (pc' := 102) rfl ?_
  refine WP.iconst at_102 (z := (5 : Int32)) rfl (pc' := 103) rfl ?_
  refine WP.irem at_103 (by decide) (pc' := 104) rfl ?_
  obtain ⟨fr, e_fr⟩ : ∃ z, z = ((ctl &&& (7 : Int32)) % (5 : Int32)) := ⟨_, rfl⟩
  rw [← e_fr]
  refine WP.istore at_104 (pc' := 106) rfl (ls' := #[.val (.long p), .second, .val (.long q), .second, .val (.int r), .val (.int ati), .val (.int ctl), .val (.ref b1), .val (.int fr), .unset, .unset, .unset, .unset]) rfl ?_
  have f1 : (ctl &&& (7 : Int32)).toInt = ctl.toInt % 8 := own_mask ctl _ 3 _ (by decide) (by decide) (by decide)
  have f2 : fr.toInt = (ctl &&& (7 : Int32)).toInt % 5 := by rw [e_fr]; exact own_irem (by decide) (by omega)
  have f3 : ((5 : Int32) - fr).toInt = 5 - fr.toInt := by rw [own_isub] <;> omega
  refine WP.iload at_106 rfl (pc' := 108) rfl ?_
  refine WP.iload at_108 rfl (pc' := 110) rfl ?_
  refine WP.iconst at_110 (z := (3 : Int32)) rfl (pc' := 111) rfl ?_
  refine WP.iushr at_111 (pc' := 112) rfl ?_
  refine WP.bipush at_112 (z := (7 : Int32)) rfl (pc' := 114) rfl ?_
  refine WP.iand at_114 (pc' := 115) rfl ?_
  refine WP.iconst at_115 (z := (5 : Int32)) rfl (pc' := 116) rfl ?_
  refine WP.iload at_116 rfl (pc' := 118) rfl ?_
  refine WP.isub at_118 (pc' := 119) rfl ?_
  refine WP.irem at_119 (fun q => by rw [q] at f3; omega) (pc' := 120) rfl ?_
  refine WP.iadd at_120 (pc' := 121) rfl ?_
  refine WP.iconst at_121 (z := (1 : Int32)) rfl (pc' := 122) rfl ?_
  refine WP.iadd at_122 (pc' := 123) rfl ?_
  obtain ⟨to, e_to⟩ : ∃ z, z = ((fr + (((ushr ctl (3 : Int32)) &&& (7 : Int32)) % ((5 : Int32) - fr))) + (1 : Int32)) := ⟨_, rfl⟩
  rw [← e_to]
  refine WP.istore at_123 (pc' := 125) rfl (ls' := #[.val (.long p), .second, .val (.long q), .second, .val (.int r), .val (.int ati), .val (.int ctl), .val (.ref b1), .val (.int fr), .val (.int to), .unset, .unset, .unset]) rfl ?_
  have f4 : ((ushr ctl (3 : Int32)) &&& (7 : Int32)).toInt = (ushr ctl (3 : Int32)).toInt % 8 := own_mask _ _ 3 _ (by decide) (by decide) (by decide)
  have f5 := (c_iremV ((ushr ctl (3 : Int32)) &&& (7 : Int32)) ((5 : Int32) - fr)).1 (by omega) (by omega)
  have f6 : (fr + (((ushr ctl (3 : Int32)) &&& (7 : Int32)) % ((5 : Int32) - fr))).toInt = fr.toInt + (((ushr ctl (3 : Int32)) &&& (7 : Int32)) % ((5 : Int32) - fr)).toInt := by rw [own_iadd] <;> omega
  have f7 : to.toInt = fr.toInt + (((ushr ctl (3 : Int32)) &&& (7 : Int32)) % ((5 : Int32) - fr)).toInt + 1 := by rw [e_to, own_iadd] <;> omega
  refine WP.iload at_125 rfl (pc' := 127) rfl ?_
  refine WP.istore at_127 (pc' := 129) rfl (ls' := #[.val (.long p), .second, .val (.long q), .second, .val (.int r), .val (.int ati), .val (.int ctl), .val (.ref b1), .val (.int fr), .val (.int to), .val (.int ati), .unset, .unset]) rfl ?_
  refine WP.iload at_129 rfl (pc' := 131) rfl ?_
  refine WP.bipush at_131 (z := (10 : Int32)) rfl (pc' := 133) rfl ?_
  refine WP.iushr at_133 (pc' := 134) rfl ?_
  refine WP.iconst at_134 (z := (1 : Int32)) rfl (pc' := 135) rfl ?_
  refine WP.iand at_135 (pc' := 136) rfl ?_
  refine WP.ifEq at_136 (tgt := 170) (by decide) (pc' := 139) rfl (fun c136 => ?_) (fun c136 => ?_)
  ·
    exact law_170 hw p q r ati ctl b1 p.toInt32 x1 x2 x3 x4 fr to _ A_b1 ⟨by omega, by omega, by omega⟩ ⟨hx1, hx2, hx3, hx4⟩
  refine WP.aload at_139 rfl rfl (pc' := 141) rfl ?_
  refine WP.iload at_141 rfl (pc' := 143) rfl ?_
  refine WP.bipush at_143 (z := (11 : Int32)) rfl (pc' := 145) rfl ?_
  refine WP.iushr at_145 (pc' := 146) rfl ?_
  refine WP.bipush at_146 (z := (7 : Int32)) rfl (pc' := 148) rfl ?_
  refine WP.iand at_148 (pc' := 149) rfl ?_
  refine WP.iconst at_149 (z := (5 : Int32)) rfl (pc' := 150) rfl ?_
  refine WP.irem at_150 (by decide) (pc' := 151) rfl ?_
  have g1 : ((ushr ctl (11 : Int32)) &&& (7 : Int32)).toInt = (ushr ctl (11 : Int32)).toInt % 8 := own_mask _ _ 3 _ (by decide) (by decide) (by decide)
  have g2 : (((ushr ctl (11 : Int32)) &&& (7 : Int32)) % (5 : Int32)).toInt = ((ushr ctl (11 : Int32)) &&& (7 : Int32)).toInt % 5 := own_irem (by decide) (by omega)
  obtain ⟨i, hi_⟩ : ∃ i : Nat, (((ushr ctl (11 : Int32)) &&& (7 : Int32)) % (5 : Int32)).toInt = (i : Int) := ⟨(((ushr ctl (11 : Int32)) &&& (7 : Int32)) % (5 : Int32)).toInt.toNat, by omega⟩
  obtain ⟨y, hy, -⟩ := own_get5 p.toInt32 x1 x2 x3 x4 i (by omega)
  refine WP.iaload i at_151 A_b1 (x := y) hi_ hy (pc' := 152) rfl ?_
  refine WP.istore at_152 (pc' := 154) rfl (ls' := #[.val (.long p), .second, .val (.long q), .second, .val (.int r), .val (.int ati), .val (.int ctl), .val (.ref b1), .val (.int fr), .val (.int to), .val (.int y), .unset, .unset]) rfl ?_
  refine WP.iload at_154 rfl (pc' := 156) rfl ?_
  refine WP.bipush at_156 (z := (14 : Int32)) rfl (pc' := 158) rfl ?_
  refine WP.iushr at_158 (pc' := 159) rfl ?_
  refine WP.iconst at_159 (z := (1 : Int32)) rfl (pc' := 160) rfl ?_
  refine WP.iand at_160 (pc' := 161) rfl ?_
  refine WP.ifEq at_161 (tgt := 170) (by decide) (pc' := 164) rfl (fun c161 => ?_) (fun c161 => ?_)
  ·
    exact law_170 hw p q r ati ctl b1 p.toInt32 x1 x2 x3 x4 fr to _ A_b1 ⟨by omega, by omega, by omega⟩ ⟨hx1, hx2, hx3, hx4⟩
  refine WP.iload at_164 rfl (pc' := 166) rfl ?_
  refine WP.iconst at_166 (z := (1 : Int32)) rfl (pc' := 167) rfl ?_
  refine WP.isub at_167 (pc' := 168) rfl ?_
  refine WP.istore at_168 (pc' := 170) rfl (ls' := #[.val (.long p), .second, .val (.long q), .second, .val (.int r), .val (.int ati), .val (.int ctl), .val (.ref b1), .val (.int fr), .val (.int to), .val (.int (y - (1 : Int32))), .unset, .unset]) rfl ?_
  exact law_170 hw p q r ati ctl b1 p.toInt32 x1 x2 x3 x4 fr to _ A_b1 ⟨by omega, by omega, by omega⟩ ⟨hx1, hx2, hx3, hx4⟩
theorem comes_1 {Post : Tables → Env → Array Value → State → Outcome → State → Prop} (hpost : ∀ tb e args s v u, (limb_1_1.after args s (.returned v) u = true ∧ limb_1_2.after args s (.returned v) u = true ∧ True) → FrameEnd s (.returned v) u (Jvm.fieldLocs frame_1_writes args s ++ Jvm.arrayLocs frame_1_arrays args s ++ Jvm.staticLocs frame_1_statics s) 16 128 → Post tb e args s (.returned v) u) :
    ArmFor flags0 classFile x code maxLocals ret World_1 tables_1 room_1 Calls_1 rest_1 Pre_1 Post := by
  intro l hfl _ _ p e ha hc hk s m args below hf hA hF happ hP
  obtain ⟨hcalls, hrest, hpre⟩ := hP
  obtain ⟨-, -, -, hnamed, -, -, -, hat⟩ := (Spec.applies_iff hf).mp happ
  obtain ⟨hg, hn⟩ := and_e (Cond.before_iff.mp (show (Jvm.Cond.and given_1 narrow_1).before args s = true from hpre))
  obtain ⟨q0, g0⟩ := and_e hg
  obtain ⟨a0, a1, a2, a3, a4, rfl⟩ : ∃ (a0 : Value) (a1 : Value) (a2 : Value) (a3 : Value) (a4 : Value), args = #[a0, a1, a2, a3, a4] := by
    have hs : args.size = 5 := by simpa [Cond.value, given_1] using q0
    obtain ⟨L⟩ := args
    match L, hs with
    | [a0, a1, a2, a3, a4], _ => exact ⟨a0, a1, a2, a3, a4, rfl⟩
  have hw : HW s #[a0, a1, a2, a3, a4] := fun d (hd : d ∈ tables_1) => atoms_spec (ws := Jvm.Cond.code x code maxLocals ret :: tables_1) hat d (List.mem_cons_of_mem _ hd)
  obtain ⟨p0, g1⟩ := and_e g0
  obtain ⟨i0, z0⟩ := isL_v p0
  obtain rfl : a0 = (.long i0) := Option.some.inj z0
  obtain ⟨p1, g2⟩ := and_e g1
  obtain ⟨i1, z1⟩ := isL_v p1
  obtain rfl : a1 = (.long i1) := Option.some.inj z1
  obtain ⟨p2, g3⟩ := and_e g2
  obtain ⟨i2, z2⟩ := is_v p2
  obtain rfl : a2 = (.int i2) := Option.some.inj z2
  obtain ⟨p3, g4⟩ := and_e g3
  obtain ⟨i3, z3⟩ := is_v p3
  obtain rfl : a3 = (.int i3) := Option.some.inj z3
  obtain ⟨i4, z4⟩ := is_v g4
  obtain rfl : a4 = (.int i4) := Option.some.inj z4
  obtain ⟨n, o, h1, h2, h3, _, L, rfl, ⟨rfl, N, -⟩, hq⟩ := law_met hw i0 i1 i2 i3 i4 (Nat.le_refl _) tables_1 p e ha hc hk s m _ below hf ((Spec.applies_iff_loose hf).mp happ).1 ⟨rfl, State.Warmed39.refl s, rfl⟩ trivial
  refine ⟨n, _, h1, h2, h3, hpost _ _ _ _ _ _ ⟨Cond.after_iff.mpr rfl, Cond.after_iff.mpr (eq_i res_at (Term.int_eval (1)) rfl), trivial⟩ ⟨hq.1, hq.2.1, (hq.2.2.sift fun y hy => Or.inr (N y hy)).mono (by decide) (by decide)⟩⟩
theorem main_1_1 : Claimed_1_1 := comes_1 fun _ _ _ _ _ _ h hF => ⟨h.1, hF⟩
theorem main_1_2 : Claimed_1_2 := comes_1 fun _ _ _ _ _ _ h hF => ⟨h.2.1, hF⟩
end Jvm.Pilot.@@N@@
namespace Jvm.Pilot.@@N@@
open Jvm Jvm.ClassFile Sem Op Lib Jvm.Free Jvm.Stand Jvm.Pilot.@@N@@.Jvm.D
/-! MADE BY PROGRAM (witnessworld.py) out of the Statement's table words and the real class files: 10 classes; the members and pool entries that the words name. The judged class is class 1, her method 2. -/
namespace start1
open Jvm.ClassFile
def u (s : String) : CpInfo := .utf8 (stringToUtf16 s)
/-- a pool by its gaps: so many unusable entries, then the entry; so many at the end -/
def gap : Nat → List CpInfo → List CpInfo
  | 0, r => r
  | n + 1, r => .unusable :: gap n r
def poolList (es : List (Nat × CpInfo)) (last : Nat) : List CpInfo := es.foldr (fun e r => gap e.1 (e.2 :: r)) (gap last [])
def pool (es : List (Nat × CpInfo)) (last : Nat) : Array CpInfo := ⟨poolList es last⟩
def fileOf (pool : Array CpInfo) (this : Nat) (attrs : Array Attribute := #[]) (ms : Array MethodInfo := #[]) (fl : Nat := 33) (sup : Nat := 0) (ifs : Array Nat := #[]) (fds : Array FieldInfo := #[]) : ClassFile where
  minorVersion := 0
  majorVersion := 65
  constantPool := pool
  accessFlags := fl
  thisClass := this
  superClass := sup
  interfaces := ifs
  fields := fds
  methods := ms
  attributes := attrs
def plain (name : String) (sup : Option ClassId) : Class where
  name := name
  kind := .ordinary
  loader := none
  accessFlags := 33
  super := sup
  interfaces := #[]
  cf := none
  fields := #[]
  methods := #[]
  instanceTypes := #[]
  staticTypes := #[]
  resolved := #[]
  callSites := []
  init := .initialized
  statics := none
  mirror := none

def pool0 : Array CpInfo := pool [(5, u "<init>"), (0, u "()V"), (1, .class_ 10), (1, u "java/lang/Object")] 113

def k0m0 : Method := { name := "<init>", desc := "()V", sig := { parameters := [], returnType := none }, accessFlags := 1, code := none }
/-- java/lang/Object -/
def k0 : Class := { plain "java/lang/Object" none with
  accessFlags := 33
  interfaces := #[]
  cf := some (fileOf pool0 8 #[] #[{ accessFlags := 1, nameIndex := 5, descriptorIndex := 6, attributes := #[] }] 33 0 #[] #[])
  fields := #[]
  methods := #[k0m0]
  instanceTypes := #[]
  staticTypes := #[]
  resolved := Array.replicate 124 none
  statics := none }

def pool1 : Array CpInfo := pool [(2, .class_ 4), (1, u "java/lang/Object"), (0, u "<init>"), (0, u "()V"), (0, .methodref 8 9), (0, .class_ 10), (0, .nameAndType 11 12), (0, u "java/lang/Math"), (0, u "max"), (0, u "(II)I"), (0, .methodref 14 15), (0, .class_ 16), (0, .nameAndType 17 18), (0, u "com/example/stampwise/stampwise/history/IntGroupsLastAtOrBeforePinLaw"), (0, u "next"), (0, u "(III)I"), (0, .methodref 20 21), (0, .class_ 22), (0, .nameAndType 23 24), (0, u "com/example/stampwise/stampwise/history/IntGroups"), (0, u "lastAtOrBefore"), (0, u "([IIII)I"), (3, u "law"), (0, u "(JJIII)Z")] 4

def k1m0 : Method := { name := "<init>", desc := "()V", sig := { parameters := [], returnType := none }, accessFlags := 1, code := none }
def k1c1 : Code := { maxStack := 2, maxLocals := 3, code := method_2_code, exceptionTable := #[], attributes := #[] }
def k1m1 : Method := { name := "next", desc := "(III)I", sig := { parameters := [.int, .int, .int], returnType := some .int }, accessFlags := 10, code := some k1c1 }
def k1c2 : Code := { maxStack := 6, maxLocals := 13, code := code, exceptionTable := #[], attributes := #[] }
def k1m2 : Method := { name := "law", desc := "(JJIII)Z", sig := { parameters := [.long, .long, .int, .int, .int], returnType := some .boolean }, accessFlags := 9, code := some k1c2 }
/-- com/example/stampwise/stampwise/history/IntGroupsLastAtOrBeforePinLaw -/
def k1 : Class := { plain "com/example/stampwise/stampwise/history/IntGroupsLastAtOrBeforePinLaw" (some 0) with
  accessFlags := 49
  interfaces := #[]
  cf := some (fileOf pool1 14 #[] #[{ accessFlags := 1, nameIndex := 5, descriptorIndex := 6, attributes := #[] }, { accessFlags := 10, nameIndex := 17, descriptorIndex := 18, attributes := #[] }, { accessFlags := 9, nameIndex := 28, descriptorIndex := 29, attributes := #[] }] 49 2 #[] #[])
  fields := #[]
  methods := #[k1m0, k1m1, k1m2]
  instanceTypes := #[]
  staticTypes := #[]
  resolved := Array.replicate 34 none
  statics := none }

def pool2 : Array CpInfo := pool [(1, .class_ 2), (0, u "java/lang/Math"), (1, .class_ 6), (1, u "java/lang/Object"), (0, u "<init>"), (0, u "()V"), (89, .class_ 100), (1, u "java/lang/Math$RandomNumberGeneratorHolder"), (71, u "negativeZeroFloatBits"), (0, u "J"), (2, u "negativeZeroDoubleBits"), (21, u "max"), (46, u "$assertionsDisabled"), (0, u "Z"), (88, u "(II)I"), (2, u "twoToTheDoubleScaleDown"), (0, u "D"), (4, u "twoToTheDoubleScaleUp"), (9, u "E"), (3, u "PI"), (2, u "TAU"), (2, u "DEGREES_TO_RADIANS"), (0, u "RADIANS_TO_DEGREES")] 94

def k2m0 : Method := { name := "<init>", desc := "()V", sig := { parameters := [], returnType := none }, accessFlags := 2, code := none }
def k2c1 : Code := { maxStack := 2, maxLocals := 2, code := jdk_29_method_65_code, exceptionTable := #[], attributes := #[] }
def k2m1 : Method := { name := "max", desc := "(II)I", sig := { parameters := [.int, .int], returnType := some .int }, accessFlags := 9, code := some k2c1 }
/-- java/lang/Math -/
def k2 : Class := { plain "java/lang/Math" (some 0) with
  accessFlags := 49
  interfaces := #[]
  cf := some (fileOf pool2 1 #[.nestMembers #[98]] #[{ accessFlags := 2, nameIndex := 7, descriptorIndex := 8, attributes := #[] }, { accessFlags := 9, nameIndex := 198, descriptorIndex := 335, attributes := #[] }] 49 4 #[] #[{ accessFlags := 25, nameIndex := 354, descriptorIndex := 339, attributes := #[] }, { accessFlags := 25, nameIndex := 358, descriptorIndex := 339, attributes := #[] }, { accessFlags := 25, nameIndex := 361, descriptorIndex := 339, attributes := #[] }, { accessFlags := 26, nameIndex := 364, descriptorIndex := 339, attributes := #[] }, { accessFlags := 26, nameIndex := 365, descriptorIndex := 339, attributes := #[] }, { accessFlags := 26, nameIndex := 172, descriptorIndex := 173, attributes := #[] }, { accessFlags := 26, nameIndex := 176, descriptorIndex := 173, attributes := #[] }, { accessFlags := 8, nameIndex := 344, descriptorIndex := 339, attributes := #[] }, { accessFlags := 8, nameIndex := 338, descriptorIndex := 339, attributes := #[] }, { accessFlags := 4120, nameIndex := 245, descriptorIndex := 246, attributes := #[] }])
  fields := #[{ name := "E", type := .double, accessFlags := 25, slot := 0, constantValue := 0 }, { name := "PI", type := .double, accessFlags := 25, slot := 1, constantValue := 0 }, { name := "TAU", type := .double, accessFlags := 25, slot := 2, constantValue := 0 }, { name := "DEGREES_TO_RADIANS", type := .double, accessFlags := 26, slot := 3, constantValue := 0 }, { name := "RADIANS_TO_DEGREES", type := .double, accessFlags := 26, slot := 4, constantValue := 0 }, { name := "negativeZeroFloatBits", type := .long, accessFlags := 26, slot := 5, constantValue := 0 }, { name := "negativeZeroDoubleBits", type := .long, accessFlags := 26, slot := 6, constantValue := 0 }, { name := "twoToTheDoubleScaleUp", type := .double, accessFlags := 8, slot := 7, constantValue := 0 }, { name := "twoToTheDoubleScaleDown", type := .double, accessFlags := 8, slot := 8, constantValue := 0 }, { name := "$assertionsDisabled", type := .boolean, accessFlags := 4120, slot := 9, constantValue := 0 }]
  methods := #[k2m0, k2m1]
  instanceTypes := #[]
  staticTypes := #[.double, .double, .double, .double, .double, .long, .long, .double, .double, .boolean]
  resolved := Array.replicate 460 none
  statics := none }

def pool3 : Array CpInfo := pool [(2, .class_ 4), (1, u "java/lang/Object"), (3, .class_ 10), (1, u "com/example/stampwise/stampwise/history/IntGroups"), (0, u "starts"), (0, u "[I"), (2, u "values"), (8, u "lastAtOrBefore"), (3, u "([IIII)I")] 15

def k3c0 : Code := { maxStack := 2, maxLocals := 7, code := prog_113_method_10_code, exceptionTable := #[], attributes := #[] }
def k3m0 : Method := { name := "lastAtOrBefore", desc := "([IIII)I", sig := { parameters := [(.array .int), .int, .int, .int], returnType := some .int }, accessFlags := 8, code := some k3c0 }
/-- com/example/stampwise/stampwise/history/IntGroups -/
def k3 : Class := { plain "com/example/stampwise/stampwise/history/IntGroups" (some 0) with
  accessFlags := 48
  interfaces := #[]
  cf := some (fileOf pool3 8 #[] #[{ accessFlags := 8, nameIndex := 24, descriptorIndex := 28, attributes := #[] }] 48 2 #[] #[{ accessFlags := 18, nameIndex := 11, descriptorIndex := 12, attributes := #[] }, { accessFlags := 2, nameIndex := 15, descriptorIndex := 12, attributes := #[] }])
  fields := #[{ name := "starts", type := (.array .int), accessFlags := 18, slot := 0, constantValue := 0 }, { name := "values", type := (.array .int), accessFlags := 2, slot := 1, constantValue := 0 }]
  methods := #[k3m0]
  instanceTypes := #[(.array .int), (.array .int)]
  staticTypes := #[]
  resolved := Array.replicate 44 none
  statics := none }

def pool4 : Array CpInfo := pool [(1, u "java/lang/Cloneable"), (0, .class_ 1), (0, u "java/lang/Object"), (0, .class_ 3)] 3

/-- java/lang/Cloneable -/
def k4 : Class := { plain "java/lang/Cloneable" (some 0) with
  accessFlags := 1537
  interfaces := #[]
  cf := some (fileOf pool4 2 #[] #[] 1537 4 #[] #[])
  fields := #[]
  methods := #[]
  instanceTypes := #[]
  staticTypes := #[]
  resolved := Array.replicate 8 none
  statics := none }

def pool5 : Array CpInfo := pool [(1, u "java/io/Serializable"), (0, .class_ 1), (0, u "java/lang/Object"), (0, .class_ 3)] 3

/-- java/io/Serializable -/
def k5 : Class := { plain "java/io/Serializable" (some 0) with
  accessFlags := 1537
  interfaces := #[]
  cf := some (fileOf pool5 2 #[] #[] 1537 4 #[] #[])
  fields := #[]
  methods := #[]
  instanceTypes := #[]
  staticTypes := #[]
  resolved := Array.replicate 8 none
  statics := none }

/-- the primitive byte -/
def k6 : Class := { plain "byte" none with kind := .primitive 'B', accessFlags := 0x411 }
/-- [B -/
def k7 : Class := { plain "[B" (some 0) with kind := .array 6 .byte, interfaces := #[4, 5], accessFlags := 1041 }

/-- the primitive int -/
def k8 : Class := { plain "int" none with kind := .primitive 'I', accessFlags := 0x411 }
/-- [I -/
def k9 : Class := { plain "[I" (some 0) with kind := .array 8 .int, interfaces := #[4, 5], accessFlags := 1041 }

def heap : Heap := #[]
def classes : Array Class := #[k0, k1, k2, k3, k4, k5, k6, k7, k8, k9]
def interned : List (Array UInt16 × Addr) := []
def slotsUsed : Nat := 0
def theMethod : MethodId := ⟨1, 2⟩
def args0 : Array Value := #[.long 5, .long 7, .int 3, .int 4, .int 77]
def aboutOver (below : List Frame) : State where
  vm := { classes := classes, interned := interned.toArray }
  heap := heap
  slotsUsed := slotsUsed
  threads := #[{ frames := .invoking theMethod args0 :: below }]
def below0 : List Frame := [.native { method := ⟨0, 0⟩, args := #[] }]
def about1 : State := aboutOver below0
def p0 : Program := .bare "" "" ""
def e0 : Env := launch0.env 0 0 0
theorem w_frames : about1.frames = Frame.invoking theMethod args0 :: below0 := rfl
set_option maxRecDepth 65536 in
theorem w_args : argsFit about1.vm theMethod args0 = true := by decide +kernel
set_option maxRecDepth 65536 in
theorem w_heap : heapFits about1 = true := by decide +kernel
set_option maxRecDepth 65536 in
theorem w_runnable : about1.curStatus? = some .runnable := by decide +kernel
set_option maxRecDepth 65536 in
theorem w_alone : about1.alone = true := by decide +kernel
set_option maxRecDepth 65536 in
theorem w_named : about1.methodNamed? x = some theMethod := by decide +kernel
set_option maxRecDepth 65536 in
theorem w_hears : about1.hears theMethod below0 = true := by decide +kernel
set_option maxRecDepth 65536 in
theorem w_ripe : about1.ripe theMethod args0 below0 = true := by decide +kernel
theorem w_running : about1.status = .running := rfl
set_option maxRecDepth 65536 in
theorem w_room : about1.hasRoom e0.platform room_1 = true :=
  launch0.hasRoom_least _ room_1 (by decide +kernel) (by decide +kernel) (by decide +kernel) (by decide +kernel) (by decide +kernel) (by decide +kernel)
theorem allAtoms_all (ts : List Jvm.Cond) (a : Array Jvm.Value) (st : Jvm.State) : (allAtoms ts).before a st = ts.all (fun c => c.before a st) := by
  induction ts with
  | nil => rfl
  | cons c t ih =>
    show (Jvm.Cond.and c (allAtoms t)).before a st = _
    rw [Jvm.Cond.before_and, ih, List.all_cons]
def words1 : List Jvm.Cond := Jvm.Cond.code x code maxLocals ret :: tables_1
/-- a 'code' word, met by the world's own term for the bytes: nothing is compared byte by byte -/
theorem code_word {y : MethodName} {bytes : ByteArray} {mx : Nat} {rt : Option FieldType} {a : Array Value} {s : State} {m : MethodId} {meth : Method} {c : Code} (h1 : s.methodNamed? y = some m) (h2 : s.vm.method? m = some meth) (h3 : meth.code = some c) (h4 : c.code = bytes)
    (h5 : (c.maxLocals == mx && c.exceptionTable.isEmpty && decide (c.maxStack ≤ mostOperands) && decide (meth.sig.returnType = rt) && !meth.locks && decide (parseMethodDescriptor y.desc = some meth.sig)) = true) : (Jvm.Cond.code y bytes mx rt).before a s = true := by
  simp only [Bool.and_eq_true, beq_iff_eq, Bool.not_eq_true', decide_eq_true_eq] at h5
  obtain ⟨⟨⟨⟨⟨g1, g2⟩, g3⟩, g4⟩, g5⟩, g6⟩ := h5
  simp [Cond.before, Cond.holds, Cond.value, h1, h2, h3, h4, g1, g2, g3, g4, g5, g6]
def isCode : Jvm.Cond → Bool
  | .code _ _ _ _ => true
  | _ => false
theorem all_split {L : List Jvm.Cond} {P : Jvm.Cond → Bool} (h1 : L.all (fun c => isCode c || P c) = true) (h2 : ∀ c ∈ L.filter isCode, P c = true) : L.all P = true := by
  refine List.all_eq_true.mpr fun c hc => ?_
  have h := List.all_eq_true.mp h1 c hc
  rcases Bool.eq_false_or_eq_true (isCode c) with hi | hi
  · exact h2 c (List.mem_filter.mpr ⟨hc, hi⟩)
  · simpa [hi] using h
set_option maxRecDepth 65536 in
theorem w_c0 : (Jvm.Cond.code x code maxLocals ret).before args0 about1 = true := code_word (m := ⟨1, 2⟩) (meth := k1m2) (c := k1c2) (by decide +kernel) rfl rfl rfl (by decide +kernel)
set_option maxRecDepth 65536 in
theorem w_c1 : (Jvm.Cond.code ({ cls := "com/example/stampwise/stampwise/history/IntGroupsLastAtOrBeforePinLaw", name := "next", desc := "(III)I" } : Jvm.MethodName) method_2_code (3 : Nat) (Option.some Jvm.ClassFile.FieldType.int)).before args0 about1 = true := code_word (m := ⟨1, 1⟩) (meth := k1m1) (c := k1c1) (by decide +kernel) rfl rfl rfl (by decide +kernel)
set_option maxRecDepth 65536 in
theorem w_c2 : (Jvm.Cond.code ({ cls := "java/lang/Math", name := "max", desc := "(II)I" } : Jvm.MethodName) jdk_29_method_65_code (2 : Nat) (Option.some Jvm.ClassFile.FieldType.int)).before args0 about1 = true := code_word (m := ⟨2, 1⟩) (meth := k2m1) (c := k2c1) (by decide +kernel) rfl rfl rfl (by decide +kernel)
set_option maxRecDepth 65536 in
theorem w_c3 : (Jvm.Cond.code ({ cls := "com/example/stampwise/stampwise/history/IntGroups", name := "lastAtOrBefore", desc := "([IIII)I" } : Jvm.MethodName) prog_113_method_10_code (7 : Nat) (Option.some Jvm.ClassFile.FieldType.int)).before args0 about1 = true := code_word (m := ⟨3, 0⟩) (meth := k3m0) (c := k3c0) (by decide +kernel) rfl rfl rfl (by decide +kernel)
def codes1 : List Jvm.Cond := [Jvm.Cond.code x code maxLocals ret, Jvm.Cond.code ({ cls := "com/example/stampwise/stampwise/history/IntGroupsLastAtOrBeforePinLaw", name := "next", desc := "(III)I" } : Jvm.MethodName) method_2_code (3 : Nat) (Option.some Jvm.ClassFile.FieldType.int), Jvm.Cond.code ({ cls := "java/lang/Math", name := "max", desc := "(II)I" } : Jvm.MethodName) jdk_29_method_65_code (2 : Nat) (Option.some Jvm.ClassFile.FieldType.int), Jvm.Cond.code ({ cls := "com/example/stampwise/stampwise/history/IntGroups", name := "lastAtOrBefore", desc := "([IIII)I" } : Jvm.MethodName) prog_113_method_10_code (7 : Nat) (Option.some Jvm.ClassFile.FieldType.int)]
set_option maxRecDepth 65536 in
theorem codes_eq : words1.filter isCode = codes1 := rfl
theorem w_codes : ∀ c ∈ words1.filter isCode, c.before args0 about1 = true := by
  rw [codes_eq]
  intro c hc
  simp only [codes1, List.mem_cons, List.not_mem_nil, or_false] at hc
  rcases hc with rfl | rfl | rfl | rfl
  · exact w_c0
  · exact w_c1
  · exact w_c2
  · exact w_c3
set_option maxRecDepth 65536 in
theorem w_t1 : words1.all (fun c => isCode c || c.before args0 about1) = true := by decide +kernel
theorem w_tables : (allAtoms (Jvm.Cond.code x code maxLocals ret :: tables_1)).before args0 about1 = true := by
  rw [allAtoms_all]
  show words1.all (fun c => c.before args0 about1) = true
  refine all_split ?_ w_codes
  rw [w_t1]
set_option maxRecDepth 65536 in
theorem w_case : (Jvm.Cond.and given_1 narrow_1).before args0 about1 = true := by decide +kernel
theorem w_applies : (headSpec (Jvm.Cond.code x code maxLocals ret :: tables_1) room_1).applies x e0.platform about1 = true :=
  (Spec.applies_iff w_frames).mpr ⟨w_running, w_runnable, w_alone, w_named, w_hears, w_ripe, w_room, w_tables⟩
theorem atStart : AtStart classFile x code maxLocals ret World_1 tables_1 room_1 Calls_1 rest_1 Pre_1 launch0 p0 e0 about1 theMethod args0 below0 :=
  ⟨lists_1, trivial, launch0.admits_env _ _ _, launch0.least_env, fairChoices_fair.cas, fairChoices_fair.clock, w_frames, w_args, w_heap, w_applies, trivial, trivial, w_case⟩
end start1
theorem witness_1 : WitnessClaimed_1 := ⟨start1.p0, start1.e0, start1.about1, start1.theMethod, start1.args0, start1.below0, start1.atStart⟩
end Jvm.Pilot.@@N@@

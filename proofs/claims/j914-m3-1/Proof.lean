import JvmDerived
import JvmDerived.Pilot.@@N@@Statement
import JvmDerived.Pilot.@@N@@Code
set_option linter.unusedVariables false
set_option linter.unusedSimpArgs false
namespace Jvm.Pilot.@@N@@.W
open Jvm Jvm.ClassFile Sem Op Lib Jvm.Free Jvm.Stand Jvm.LawKit Jvm.RoadKit Bundle

/-- the invocation comes to its end from (T, f): what it returns and the heap there are as G says; nothing below n0 is written; at most K cells, N slots are made -/
def Ends (p : Program) (e : Env) (below : List Frame) (Y : State → Outcome → List Loc → Prop) (n0 : Nat) (G : Option Value → Heap → Prop) (T : State) (f : JFrame) : Prop :=
  ∃ s₂ o, Steps p.tables e below (T.setTop f) s₂ ∧ s₂.status = .running ∧ Ended s₂ below o ∧ ∃ v L, o = .returned v ∧ (G v s₂.heap ∧ Fr n0 L) ∧ Y s₂ o L
/-- the walk stands in T, whose heap is h -/
def St (p : Program) (l : Launch) (e : Env) (R : Room) (s : State) (m : MethodId) (args : Array Value) (below : List Frame) (meth : Method) (c : Code) (n0 : Nat) (h : Heap) (k n : Nat) (T : State) : Prop :=
  ∃ locs, Fr n0 locs ∧ Stand p l e R s m args below meth c T locs k n ∧ T.heap = h
/-- what stays through a walk: the machine, the tables of the start, the body, its class, what it returns -/
def Cx (p : Program) (s : State) (m : MethodId) (meth : Method) (c : Code) (Z : State) (n0 : Nat) (own : String) (bytes : ByteArray) (ml : Nat) (ret : Option FieldType) : Prop :=
  p.tables.exec = Jvm.exec ∧ Z.Warmed39 s.vm ∧ c.code = bytes ∧ c.maxLocals = ml ∧ s.vm.findClass own = some m.cls ∧ meth.sig.returnType = ret ∧ meth.locks = false ∧ n0 ≤ s.heap.size
/-- from every state that stands so, with the frame f on top, the invocation comes to its end -/
def Go (p : Program) (l : Launch) (e : Env) (R : Room) (s : State) (m : MethodId) (args : Array Value) (below : List Frame) (meth : Method) (c : Code) (Y : State → Outcome → List Loc → Prop) (n0 : Nat) (G : Option Value → Heap → Prop) (h : Heap) (k n : Nat) (f : JFrame) : Prop :=
  ∀ T, St p l e R s m args below meth c n0 h k n T → Ends p e below Y n0 G T f
/-- a body's contract -/
abbrev Con (l : Launch) (Z : State) (y : MethodName) (bytes : ByteArray) (ml : Nat) (ret : Option FieldType) (ws : List Cond) (rm : Room) (K N : Nat) (as : Array Value) (h0 : Heap) (n0 : Nat) (G : Option Value → Heap → Prop) : Prop :=
  MetFree l y (head1 (Cond.code y bytes ml ret :: ws) rm) (fun a U => a = as ∧ Z.Warmed39 U.vm ∧ U.heap = h0) (fun _ _ _ _ _ => True) (fun _ U o U' => ∃ v L, o = .returned v ∧ (G v U'.heap ∧ Fr n0 L) ∧ FrameEnd U o U' L K N)

section Walk
variable {p : Program} {l : Launch} {e : Env} {R : Room} {s : State} {m : MethodId} {args : Array Value} {below : List Frame} {meth : Method} {c : Code} {K N n0 k n : Nat} {G : Option Value → Heap → Prop} {Y : State → Outcome → List Loc → Prop}
  {Z : State} {a0 : Array Value} {own : String} {bytes : ByteArray} {ml : Nat} {ret : Option FieldType} {Ls Ls' : Array Slot} {S : List Value} {pc pc' pn : Nat} {h h' : Heap}

theorem step {T T' : State} {f f' : JFrame} (q : ∀ target, Steps p.tables e below (T'.setTop f') target → Steps p.tables e below (T.setTop f) target) (g : Ends p e below Y n0 G T' f') : Ends p e below Y n0 G T f := by
  obtain ⟨s₂, o, h1, h2⟩ := g
  exact ⟨s₂, o, q _ h1, h2⟩
theorem stepG {f f' : JFrame} (q : ∀ T locs, Stand p l e R s m args below meth c T locs k n → T.heap = h → ∀ target, Steps p.tables e below (T.setTop f') target → Steps p.tables e below (T.setTop f) target)
    (g : Go p l e R s m args below meth c Y n0 G h k n f') : Go p l e R s m args below meth c Y n0 G h k n f := fun T ⟨locs, F, X, eT⟩ => step (q T locs X eT) (g T ⟨locs, F, X, eT⟩)
theorem Go.mono {f : JFrame} {k2 n2 : Nat} (g : Go p l e R s m args below meth c Y n0 G h k2 n2 f) (h1 : k ≤ k2) (h2 : n ≤ n2) : Go p l e R s m args below meth c Y n0 G h k n f := fun T ⟨locs, F, X, eT⟩ =>
  g T ⟨locs, F, ⟨X.admits, X.cas, X.clock, X.frames, X.room, X.hears, X.method, X.code, X.here, X.tail, X.warmed, X.limits, X.bytes, X.same.mono h1 h2⟩, eT⟩
theorem Go.castF {f f' : JFrame} (q : f = f') (g : Go p l e R s m args below meth c Y n0 G h k n f') : Go p l e R s m args below meth c Y n0 G h k n f := q ▸ g

/-- entering -/
theorem enter {y : MethodName} {as : Array Value} {ws : List Cond} {rm : Room} {h0 : Heap} (hp : plainFor y = true) (Z0 : n0 ≤ h0.size)
    (body : ∀ p e s m below meth c, Cx p s m meth c Z n0 y.cls bytes ml ret → meth.name = y.name → s.heap = h0 → Go p l e rm s m as below meth c (fun s₂ o L => FrameEnd s o s₂ L K N) n0 G h0 0 0 (entryFrame m as ml)) : Con l Z y bytes ml ret ws rm K N as h0 n0 G := by
  refine MetFree.of_bodySF hp hisR ?_
  intro p e s m args below meth c s₁ Bd hml0 hP hK
  obtain ⟨rfl, hZ, hh⟩ := hP
  have X0 : Stand p l e rm s m args below meth c s₁ [] 0 0 := Stand.of_body Bd
  have e0 : s₁.heap = h0 := by rw [← hh, Bd.state]; rfl
  obtain ⟨s₂, o, h1, h2, h3, h4⟩ := body p e s m below meth c ⟨Bd.exec, hZ, Bd.bytes, hml0, findClass_of_methodNamed Bd.named, Bd.returns, Bd.notSynchronized, by rw [hh]; exact Z0⟩ (name_of_methodNamed Bd.named Bd.method).1 hh s₁ ⟨[], Fr.nil _, X0, e0⟩
  exact ⟨s₂, o, h1, h2, h3, h4⟩

/-! loads, stores, constants -/
theorem iloadN (C : Cx p s m meth c Z n0 own bytes ml ret) {i : Fin 4} {v : Int32} (hd : decode bytes pc = .ok (.iload_n i, 1)) (hp : pc + 1 = pc') (hl : Ls[i.val]? = some (.val (.int v)))
    (g : Go p l e R s m args below meth c Y n0 G h k n (mkF m pc' Ls (.int v :: S))) : Go p l e R s m args below meth c Y n0 G h k n (mkF m pc Ls S) := by
  subst hp; exact stepG (fun T locs X _ _ q => XS.iloadN X.here C.1 rfl (hb C.2.2.1 hd) hl q) g
theorem iload (C : Cx p s m meth c Z n0 own bytes ml ret) {i : Nat} {v : Int32} (hd : decode bytes pc = .ok (.iload i, 2)) (hp : pc + 2 = pc') (hl : Ls[i]? = some (.val (.int v)))
    (g : Go p l e R s m args below meth c Y n0 G h k n (mkF m pc' Ls (.int v :: S))) : Go p l e R s m args below meth c Y n0 G h k n (mkF m pc Ls S) := by
  subst hp; exact stepG (fun T locs X _ _ q => XS.iload X.here C.1 rfl (hb C.2.2.1 hd) hl q) g
theorem lloadN (C : Cx p s m meth c Z n0 own bytes ml ret) {i : Fin 4} {v : Int64} (hd : decode bytes pc = .ok (.lload_n i, 1)) (hp : pc + 1 = pc') (hl : Ls[i.val]? = some (.val (.long v)))
    (g : Go p l e R s m args below meth c Y n0 G h k n (mkF m pc' Ls (.long v :: S))) : Go p l e R s m args below meth c Y n0 G h k n (mkF m pc Ls S) := by
  subst hp; exact stepG (fun T locs X _ _ q => XS.lloadN X.here C.1 rfl (hb C.2.2.1 hd) hl q) g
theorem lload (C : Cx p s m meth c Z n0 own bytes ml ret) {i : Nat} {v : Int64} (hd : decode bytes pc = .ok (.lload i, 2)) (hp : pc + 2 = pc') (hl : Ls[i]? = some (.val (.long v)))
    (g : Go p l e R s m args below meth c Y n0 G h k n (mkF m pc' Ls (.long v :: S))) : Go p l e R s m args below meth c Y n0 G h k n (mkF m pc Ls S) := by
  subst hp; exact stepG (fun T locs X _ _ q => XS.lload X.here C.1 rfl (hb C.2.2.1 hd) hl q) g
theorem aloadN (C : Cx p s m meth c Z n0 own bytes ml ret) {i : Fin 4} {v : Value} (hd : decode bytes pc = .ok (.aload_n i, 1)) (hp : pc + 1 = pc') (hl : Ls[i.val]? = some (.val v)) (hv : v.isRef = true)
    (g : Go p l e R s m args below meth c Y n0 G h k n (mkF m pc' Ls (v :: S))) : Go p l e R s m args below meth c Y n0 G h k n (mkF m pc Ls S) := by
  subst hp; exact stepG (fun T locs X _ _ q => XS.aloadN X.here C.1 rfl (hb C.2.2.1 hd) hl hv q) g
theorem aload (C : Cx p s m meth c Z n0 own bytes ml ret) {i : Nat} {v : Value} (hd : decode bytes pc = .ok (.aload i, 2)) (hp : pc + 2 = pc') (hl : Ls[i]? = some (.val v)) (hv : v.isRef = true)
    (g : Go p l e R s m args below meth c Y n0 G h k n (mkF m pc' Ls (v :: S))) : Go p l e R s m args below meth c Y n0 G h k n (mkF m pc Ls S) := by
  subst hp; exact stepG (fun T locs X _ _ q => XS.aload X.here C.1 rfl (hb C.2.2.1 hd) hl hv q) g
theorem istoreN (C : Cx p s m meth c Z n0 own bytes ml ret) {i : Fin 4} {x : Int32} (hd : decode bytes pc = .ok (.istore_n i, 1)) (hp : pc + 1 = pc') (hl : storeLocals Ls i.val (.int x) = some Ls')
    (g : Go p l e R s m args below meth c Y n0 G h k n (mkF m pc' Ls' S)) : Go p l e R s m args below meth c Y n0 G h k n (mkF m pc Ls (.int x :: S)) := by
  subst hp; exact stepG (fun T locs X _ _ q => XS.istoreN X.here C.1 rfl (hb C.2.2.1 hd) rfl hl q) g
theorem istore (C : Cx p s m meth c Z n0 own bytes ml ret) {i : Nat} {x : Int32} (hd : decode bytes pc = .ok (.istore i, 2)) (hp : pc + 2 = pc') (hl : storeLocals Ls i (.int x) = some Ls')
    (g : Go p l e R s m args below meth c Y n0 G h k n (mkF m pc' Ls' S)) : Go p l e R s m args below meth c Y n0 G h k n (mkF m pc Ls (.int x :: S)) := by
  subst hp; exact stepG (fun T locs X _ _ q => XS.istore X.here C.1 rfl (hb C.2.2.1 hd) rfl hl q) g
theorem lstoreN (C : Cx p s m meth c Z n0 own bytes ml ret) {i : Fin 4} {x : Int64} (hd : decode bytes pc = .ok (.lstore_n i, 1)) (hp : pc + 1 = pc') (hl : storeLocals Ls i.val (.long x) = some Ls')
    (g : Go p l e R s m args below meth c Y n0 G h k n (mkF m pc' Ls' S)) : Go p l e R s m args below meth c Y n0 G h k n (mkF m pc Ls (.long x :: S)) := by
  subst hp; exact stepG (fun T locs X _ _ q => XS.lstoreN X.here C.1 rfl (hb C.2.2.1 hd) rfl hl q) g
theorem lstore (C : Cx p s m meth c Z n0 own bytes ml ret) {i : Nat} {x : Int64} (hd : decode bytes pc = .ok (.lstore i, 2)) (hp : pc + 2 = pc') (hl : storeLocals Ls i (.long x) = some Ls')
    (g : Go p l e R s m args below meth c Y n0 G h k n (mkF m pc' Ls' S)) : Go p l e R s m args below meth c Y n0 G h k n (mkF m pc Ls (.long x :: S)) := by
  subst hp; exact stepG (fun T locs X _ _ q => XS.lstore X.here C.1 rfl (hb C.2.2.1 hd) rfl hl q) g
theorem astoreN (C : Cx p s m meth c Z n0 own bytes ml ret) {i : Fin 4} {x : Value} (hd : decode bytes pc = .ok (.astore_n i, 1)) (hp : pc + 1 = pc') (hv : x.isRef = true) (hl : storeLocals Ls i.val x = some Ls')
    (g : Go p l e R s m args below meth c Y n0 G h k n (mkF m pc' Ls' S)) : Go p l e R s m args below meth c Y n0 G h k n (mkF m pc Ls (x :: S)) := by
  subst hp; exact stepG (fun T locs X _ _ q => XS.astoreN X.here C.1 rfl (hb C.2.2.1 hd) rfl hv hl q) g
theorem astore (C : Cx p s m meth c Z n0 own bytes ml ret) {i : Nat} {x : Value} (hd : decode bytes pc = .ok (.astore i, 2)) (hp : pc + 2 = pc') (hv : x.isRef = true) (hl : storeLocals Ls i x = some Ls')
    (g : Go p l e R s m args below meth c Y n0 G h k n (mkF m pc' Ls' S)) : Go p l e R s m args below meth c Y n0 G h k n (mkF m pc Ls (x :: S)) := by
  subst hp; exact stepG (fun T locs X _ _ q => XS.astore X.here C.1 rfl (hb C.2.2.1 hd) rfl hv hl q) g
theorem iconst (C : Cx p s m meth c Z n0 own bytes ml ret) {i : Int} {x : Int32} (hd : decode bytes pc = .ok (.iconst i, 1)) (hp : pc + 1 = pc') (hv : Int32.ofInt i = x)
    (g : Go p l e R s m args below meth c Y n0 G h k n (mkF m pc' Ls (.int x :: S))) : Go p l e R s m args below meth c Y n0 G h k n (mkF m pc Ls S) := by
  subst hp hv; exact stepG (fun T locs X _ _ q => XS.iconst X.here C.1 rfl (hb C.2.2.1 hd) q) g
theorem bipush (C : Cx p s m meth c Z n0 own bytes ml ret) {i : Int} {x : Int32} (hd : decode bytes pc = .ok (.bipush i, 2)) (hp : pc + 2 = pc') (hv : (Int8.ofInt i).toInt32 = x)
    (g : Go p l e R s m args below meth c Y n0 G h k n (mkF m pc' Ls (.int x :: S))) : Go p l e R s m args below meth c Y n0 G h k n (mkF m pc Ls S) := by
  subst hp hv; exact stepG (fun T locs X _ _ q => XS.bipush X.here C.1 rfl (hb C.2.2.1 hd) q) g
theorem sipush (C : Cx p s m meth c Z n0 own bytes ml ret) {i : Int} {x : Int32} (hd : decode bytes pc = .ok (.sipush i, 3)) (hp : pc + 3 = pc') (hv : (Int16.ofInt i).toInt32 = x)
    (g : Go p l e R s m args below meth c Y n0 G h k n (mkF m pc' Ls (.int x :: S))) : Go p l e R s m args below meth c Y n0 G h k n (mkF m pc Ls S) := by
  subst hp hv; exact stepG (fun T locs X _ _ q => XS.sipush X.here C.1 rfl (hb C.2.2.1 hd) q) g
theorem lconst (C : Cx p s m meth c Z n0 own bytes ml ret) {i : Fin 2} {x : Int64} (hd : decode bytes pc = .ok (.lconst i, 1)) (hp : pc + 1 = pc') (hv : Int64.ofNat i = x)
    (g : Go p l e R s m args below meth c Y n0 G h k n (mkF m pc' Ls (.long x :: S))) : Go p l e R s m args below meth c Y n0 G h k n (mkF m pc Ls S) := by
  subst hp hv; exact stepG (fun T locs X _ _ q => XS.lconst X.here C.1 rfl (hb C.2.2.1 hd) q) g
theorem aconst_null (C : Cx p s m meth c Z n0 own bytes ml ret) (hd : decode bytes pc = .ok (.aconst_null, 1)) (hp : pc + 1 = pc')
    (g : Go p l e R s m args below meth c Y n0 G h k n (mkF m pc' Ls (.null :: S))) : Go p l e R s m args below meth c Y n0 G h k n (mkF m pc Ls S) := by
  subst hp; exact stepG (fun T locs X _ _ q => XS.aconstNull X.here C.1 rfl (hb C.2.2.1 hd) q) g
theorem ldcI (C : Cx p s m meth c Z n0 own bytes ml ret) {i : Nat} {v : Int32} (w : (Cond.constant own i v).before a0 Z = true) (hd : decode bytes pc = .ok (.ldc i, 2)) (hp : pc + 2 = pc')
    (g : Go p l e R s m args below meth c Y n0 G h k n (mkF m pc' Ls (.int v :: S))) : Go p l e R s m args below meth c Y n0 G h k n (mkF m pc Ls S) := by
  subst hp; exact stepG (fun T locs X _ t q => X.ldcInt C.1 C.2.2.2.2.1 (mvT C.2.1 w) (g := mkF m pc Ls S) rfl (hb C.2.2.1 hd) t q) g
theorem ldcwI (C : Cx p s m meth c Z n0 own bytes ml ret) {i : Nat} {v : Int32} (w : (Cond.constant own i v).before a0 Z = true) (hd : decode bytes pc = .ok (.ldc_w i, 3)) (hp : pc + 3 = pc')
    (g : Go p l e R s m args below meth c Y n0 G h k n (mkF m pc' Ls (.int v :: S))) : Go p l e R s m args below meth c Y n0 G h k n (mkF m pc Ls S) := by
  subst hp; exact stepG (fun T locs X _ t q => X.ldcwInt C.1 C.2.2.2.2.1 (mvT C.2.1 w) (g := mkF m pc Ls S) rfl (hb C.2.2.1 hd) t q) g
theorem ldc2 (C : Cx p s m meth c Z n0 own bytes ml ret) {i : Nat} {v : Int64} (w : (Cond.constantLong own i v).before a0 Z = true) (hd : decode bytes pc = .ok (.ldc2_w i, 3)) (hp : pc + 3 = pc')
    (g : Go p l e R s m args below meth c Y n0 G h k n (mkF m pc' Ls (.long v :: S))) : Go p l e R s m args below meth c Y n0 G h k n (mkF m pc Ls S) := by
  subst hp; exact stepG (fun T locs X _ t q => X.ldc2Long C.1 C.2.2.2.2.1 (mvT C.2.1 w) (g := mkF m pc Ls S) rfl (hb C.2.2.1 hd) t q) g
theorem iadd (C : Cx p s m meth c Z n0 own bytes ml ret) {x y z : Int32} (hd : decode bytes pc = .ok (.iadd, 1)) (hp : pc + 1 = pc') (hv : x + y = z)
    (g : Go p l e R s m args below meth c Y n0 G h k n (mkF m pc' Ls (.int z :: S))) : Go p l e R s m args below meth c Y n0 G h k n (mkF m pc Ls (.int y :: .int x :: S)) := by
  subst hp hv; exact stepG (fun T locs X _ _ q => XS.iadd X.here C.1 rfl (hb C.2.2.1 hd) rfl q) g
theorem isub (C : Cx p s m meth c Z n0 own bytes ml ret) {x y z : Int32} (hd : decode bytes pc = .ok (.isub, 1)) (hp : pc + 1 = pc') (hv : x - y = z)
    (g : Go p l e R s m args below meth c Y n0 G h k n (mkF m pc' Ls (.int z :: S))) : Go p l e R s m args below meth c Y n0 G h k n (mkF m pc Ls (.int y :: .int x :: S)) := by
  subst hp hv; exact stepG (fun T locs X _ _ q => XS.isub X.here C.1 rfl (hb C.2.2.1 hd) rfl q) g
theorem imul (C : Cx p s m meth c Z n0 own bytes ml ret) {x y z : Int32} (hd : decode bytes pc = .ok (.imul, 1)) (hp : pc + 1 = pc') (hv : x * y = z)
    (g : Go p l e R s m args below meth c Y n0 G h k n (mkF m pc' Ls (.int z :: S))) : Go p l e R s m args below meth c Y n0 G h k n (mkF m pc Ls (.int y :: .int x :: S)) := by
  subst hp hv; exact stepG (fun T locs X _ _ q => XS.imul X.here C.1 rfl (hb C.2.2.1 hd) rfl q) g
theorem iand (C : Cx p s m meth c Z n0 own bytes ml ret) {x y z : Int32} (hd : decode bytes pc = .ok (.iand, 1)) (hp : pc + 1 = pc') (hv : x &&& y = z)
    (g : Go p l e R s m args below meth c Y n0 G h k n (mkF m pc' Ls (.int z :: S))) : Go p l e R s m args below meth c Y n0 G h k n (mkF m pc Ls (.int y :: .int x :: S)) := by
  subst hp hv; exact stepG (fun T locs X _ _ q => XS.iand X.here C.1 rfl (hb C.2.2.1 hd) rfl q) g
theorem ior (C : Cx p s m meth c Z n0 own bytes ml ret) {x y z : Int32} (hd : decode bytes pc = .ok (.ior, 1)) (hp : pc + 1 = pc') (hv : x ||| y = z)
    (g : Go p l e R s m args below meth c Y n0 G h k n (mkF m pc' Ls (.int z :: S))) : Go p l e R s m args below meth c Y n0 G h k n (mkF m pc Ls (.int y :: .int x :: S)) := by
  subst hp hv; exact stepG (fun T locs X _ _ q => XS.ior X.here C.1 rfl (hb C.2.2.1 hd) rfl q) g
theorem ixor (C : Cx p s m meth c Z n0 own bytes ml ret) {x y z : Int32} (hd : decode bytes pc = .ok (.ixor, 1)) (hp : pc + 1 = pc') (hv : x ^^^ y = z)
    (g : Go p l e R s m args below meth c Y n0 G h k n (mkF m pc' Ls (.int z :: S))) : Go p l e R s m args below meth c Y n0 G h k n (mkF m pc Ls (.int y :: .int x :: S)) := by
  subst hp hv; exact stepG (fun T locs X _ _ q => XS.ixor X.here C.1 rfl (hb C.2.2.1 hd) rfl q) g
theorem ladd (C : Cx p s m meth c Z n0 own bytes ml ret) {x y z : Int64} (hd : decode bytes pc = .ok (.ladd, 1)) (hp : pc + 1 = pc') (hv : x + y = z)
    (g : Go p l e R s m args below meth c Y n0 G h k n (mkF m pc' Ls (.long z :: S))) : Go p l e R s m args below meth c Y n0 G h k n (mkF m pc Ls (.long y :: .long x :: S)) := by
  subst hp hv; exact stepG (fun T locs X _ _ q => XS.ladd X.here C.1 rfl (hb C.2.2.1 hd) rfl q) g
theorem lsub (C : Cx p s m meth c Z n0 own bytes ml ret) {x y z : Int64} (hd : decode bytes pc = .ok (.lsub, 1)) (hp : pc + 1 = pc') (hv : x - y = z)
    (g : Go p l e R s m args below meth c Y n0 G h k n (mkF m pc' Ls (.long z :: S))) : Go p l e R s m args below meth c Y n0 G h k n (mkF m pc Ls (.long y :: .long x :: S)) := by
  subst hp hv; exact stepG (fun T locs X _ _ q => XS.lsub X.here C.1 rfl (hb C.2.2.1 hd) rfl q) g
theorem lmul (C : Cx p s m meth c Z n0 own bytes ml ret) {x y z : Int64} (hd : decode bytes pc = .ok (.lmul, 1)) (hp : pc + 1 = pc') (hv : x * y = z)
    (g : Go p l e R s m args below meth c Y n0 G h k n (mkF m pc' Ls (.long z :: S))) : Go p l e R s m args below meth c Y n0 G h k n (mkF m pc Ls (.long y :: .long x :: S)) := by
  subst hp hv; exact stepG (fun T locs X _ _ q => XS.lmul X.here C.1 rfl (hb C.2.2.1 hd) rfl q) g
theorem land (C : Cx p s m meth c Z n0 own bytes ml ret) {x y z : Int64} (hd : decode bytes pc = .ok (.land, 1)) (hp : pc + 1 = pc') (hv : x &&& y = z)
    (g : Go p l e R s m args below meth c Y n0 G h k n (mkF m pc' Ls (.long z :: S))) : Go p l e R s m args below meth c Y n0 G h k n (mkF m pc Ls (.long y :: .long x :: S)) := by
  subst hp hv; exact stepG (fun T locs X _ _ q => XS.land X.here C.1 rfl (hb C.2.2.1 hd) rfl q) g
theorem lor (C : Cx p s m meth c Z n0 own bytes ml ret) {x y z : Int64} (hd : decode bytes pc = .ok (.lor, 1)) (hp : pc + 1 = pc') (hv : x ||| y = z)
    (g : Go p l e R s m args below meth c Y n0 G h k n (mkF m pc' Ls (.long z :: S))) : Go p l e R s m args below meth c Y n0 G h k n (mkF m pc Ls (.long y :: .long x :: S)) := by
  subst hp hv; exact stepG (fun T locs X _ _ q => XS.lor X.here C.1 rfl (hb C.2.2.1 hd) rfl q) g
theorem lxor (C : Cx p s m meth c Z n0 own bytes ml ret) {x y z : Int64} (hd : decode bytes pc = .ok (.lxor, 1)) (hp : pc + 1 = pc') (hv : x ^^^ y = z)
    (g : Go p l e R s m args below meth c Y n0 G h k n (mkF m pc' Ls (.long z :: S))) : Go p l e R s m args below meth c Y n0 G h k n (mkF m pc Ls (.long y :: .long x :: S)) := by
  subst hp hv; exact stepG (fun T locs X _ _ q => XS.lxor X.here C.1 rfl (hb C.2.2.1 hd) rfl q) g
theorem ishl (C : Cx p s m meth c Z n0 own bytes ml ret) {x z : Int32} {y : Int32} (hd : decode bytes pc = .ok (.ishl, 1)) (hp : pc + 1 = pc') (hv : (x <<< (y &&& 31)) = z)
    (g : Go p l e R s m args below meth c Y n0 G h k n (mkF m pc' Ls (.int z :: S))) : Go p l e R s m args below meth c Y n0 G h k n (mkF m pc Ls (.int y :: .int x :: S)) := by
  subst hp hv; exact stepG (fun T locs X _ _ q => XS.ishl X.here C.1 rfl (hb C.2.2.1 hd) rfl q) g
theorem ishr (C : Cx p s m meth c Z n0 own bytes ml ret) {x z : Int32} {y : Int32} (hd : decode bytes pc = .ok (.ishr, 1)) (hp : pc + 1 = pc') (hv : (x >>> (y &&& 31)) = z)
    (g : Go p l e R s m args below meth c Y n0 G h k n (mkF m pc' Ls (.int z :: S))) : Go p l e R s m args below meth c Y n0 G h k n (mkF m pc Ls (.int y :: .int x :: S)) := by
  subst hp hv; exact stepG (fun T locs X _ _ q => XS.ishr X.here C.1 rfl (hb C.2.2.1 hd) rfl q) g
theorem iushr (C : Cx p s m meth c Z n0 own bytes ml ret) {x z : Int32} {y : Int32} (hd : decode bytes pc = .ok (.iushr, 1)) (hp : pc + 1 = pc') (hv : ((x).toUInt32 >>> (y &&& 31).toUInt32).toInt32 = z)
    (g : Go p l e R s m args below meth c Y n0 G h k n (mkF m pc' Ls (.int z :: S))) : Go p l e R s m args below meth c Y n0 G h k n (mkF m pc Ls (.int y :: .int x :: S)) := by
  subst hp hv; exact stepG (fun T locs X _ _ q => XS.iushr X.here C.1 rfl (hb C.2.2.1 hd) rfl q) g
theorem lshl (C : Cx p s m meth c Z n0 own bytes ml ret) {x z : Int64} {y : Int32} (hd : decode bytes pc = .ok (.lshl, 1)) (hp : pc + 1 = pc') (hv : (x <<< (y &&& 0x3f).toInt64) = z)
    (g : Go p l e R s m args below meth c Y n0 G h k n (mkF m pc' Ls (.long z :: S))) : Go p l e R s m args below meth c Y n0 G h k n (mkF m pc Ls (.int y :: .long x :: S)) := by
  subst hp hv; exact stepG (fun T locs X _ _ q => XS.lshl X.here C.1 rfl (hb C.2.2.1 hd) rfl q) g
theorem lshr (C : Cx p s m meth c Z n0 own bytes ml ret) {x z : Int64} {y : Int32} (hd : decode bytes pc = .ok (.lshr, 1)) (hp : pc + 1 = pc') (hv : (x >>> (y &&& 0x3f).toInt64) = z)
    (g : Go p l e R s m args below meth c Y n0 G h k n (mkF m pc' Ls (.long z :: S))) : Go p l e R s m args below meth c Y n0 G h k n (mkF m pc Ls (.int y :: .long x :: S)) := by
  subst hp hv; exact stepG (fun T locs X _ _ q => XS.lshr X.here C.1 rfl (hb C.2.2.1 hd) rfl q) g
theorem lushr (C : Cx p s m meth c Z n0 own bytes ml ret) {x z : Int64} {y : Int32} (hd : decode bytes pc = .ok (.lushr, 1)) (hp : pc + 1 = pc') (hv : ((x).toUInt64 >>> (y &&& 0x3f).toInt64.toUInt64).toInt64 = z)
    (g : Go p l e R s m args below meth c Y n0 G h k n (mkF m pc' Ls (.long z :: S))) : Go p l e R s m args below meth c Y n0 G h k n (mkF m pc Ls (.int y :: .long x :: S)) := by
  subst hp hv; exact stepG (fun T locs X _ _ q => XS.lushr X.here C.1 rfl (hb C.2.2.1 hd) rfl q) g
theorem ineg (C : Cx p s m meth c Z n0 own bytes ml ret) {x : Int32} {z : Int32} (hd : decode bytes pc = .ok (.ineg, 1)) (hp : pc + 1 = pc') (hv : (-x) = z)
    (g : Go p l e R s m args below meth c Y n0 G h k n (mkF m pc' Ls (.int z :: S))) : Go p l e R s m args below meth c Y n0 G h k n (mkF m pc Ls (.int x :: S)) := by
  subst hp hv; exact stepG (fun T locs X _ _ q => XS.ineg X.here C.1 rfl (hb C.2.2.1 hd) rfl q) g
theorem lneg (C : Cx p s m meth c Z n0 own bytes ml ret) {x : Int64} {z : Int64} (hd : decode bytes pc = .ok (.lneg, 1)) (hp : pc + 1 = pc') (hv : (-x) = z)
    (g : Go p l e R s m args below meth c Y n0 G h k n (mkF m pc' Ls (.long z :: S))) : Go p l e R s m args below meth c Y n0 G h k n (mkF m pc Ls (.long x :: S)) := by
  subst hp hv; exact stepG (fun T locs X _ _ q => XS.lneg X.here C.1 rfl (hb C.2.2.1 hd) rfl q) g
theorem i2l (C : Cx p s m meth c Z n0 own bytes ml ret) {x : Int32} {z : Int64} (hd : decode bytes pc = .ok (.i2l, 1)) (hp : pc + 1 = pc') (hv : (x).toInt64 = z)
    (g : Go p l e R s m args below meth c Y n0 G h k n (mkF m pc' Ls (.long z :: S))) : Go p l e R s m args below meth c Y n0 G h k n (mkF m pc Ls (.int x :: S)) := by
  subst hp hv; exact stepG (fun T locs X _ _ q => XS.i2l X.here C.1 rfl (hb C.2.2.1 hd) rfl q) g
theorem l2i (C : Cx p s m meth c Z n0 own bytes ml ret) {x : Int64} {z : Int32} (hd : decode bytes pc = .ok (.l2i, 1)) (hp : pc + 1 = pc') (hv : (x).toInt32 = z)
    (g : Go p l e R s m args below meth c Y n0 G h k n (mkF m pc' Ls (.int z :: S))) : Go p l e R s m args below meth c Y n0 G h k n (mkF m pc Ls (.long x :: S)) := by
  subst hp hv; exact stepG (fun T locs X _ _ q => XS.l2i X.here C.1 rfl (hb C.2.2.1 hd) rfl q) g
theorem i2b (C : Cx p s m meth c Z n0 own bytes ml ret) {x : Int32} {z : Int32} (hd : decode bytes pc = .ok (.i2b, 1)) (hp : pc + 1 = pc') (hv : (x).toInt8.toInt32 = z)
    (g : Go p l e R s m args below meth c Y n0 G h k n (mkF m pc' Ls (.int z :: S))) : Go p l e R s m args below meth c Y n0 G h k n (mkF m pc Ls (.int x :: S)) := by
  subst hp hv; exact stepG (fun T locs X _ _ q => XS.i2b X.here C.1 rfl (hb C.2.2.1 hd) rfl q) g
theorem i2s (C : Cx p s m meth c Z n0 own bytes ml ret) {x : Int32} {z : Int32} (hd : decode bytes pc = .ok (.i2s, 1)) (hp : pc + 1 = pc') (hv : (x).toInt16.toInt32 = z)
    (g : Go p l e R s m args below meth c Y n0 G h k n (mkF m pc' Ls (.int z :: S))) : Go p l e R s m args below meth c Y n0 G h k n (mkF m pc Ls (.int x :: S)) := by
  subst hp hv; exact stepG (fun T locs X _ _ q => XS.i2s X.here C.1 rfl (hb C.2.2.1 hd) rfl q) g
theorem i2c (C : Cx p s m meth c Z n0 own bytes ml ret) {x : Int32} {z : Int32} (hd : decode bytes pc = .ok (.i2c, 1)) (hp : pc + 1 = pc') (hv : (x).toUInt32.toUInt16.toUInt32.toInt32 = z)
    (g : Go p l e R s m args below meth c Y n0 G h k n (mkF m pc' Ls (.int z :: S))) : Go p l e R s m args below meth c Y n0 G h k n (mkF m pc Ls (.int x :: S)) := by
  subst hp hv; exact stepG (fun T locs X _ _ q => XS.i2c X.here C.1 rfl (hb C.2.2.1 hd) rfl q) g
theorem idiv (C : Cx p s m meth c Z n0 own bytes ml ret) {x y z : Int32} (hd : decode bytes pc = .ok (.idiv, 1)) (hp : pc + 1 = pc') (hy : y ≠ 0) (hv : x / y = z)
    (g : Go p l e R s m args below meth c Y n0 G h k n (mkF m pc' Ls (.int z :: S))) : Go p l e R s m args below meth c Y n0 G h k n (mkF m pc Ls (.int y :: .int x :: S)) := by
  subst hp hv; exact stepG (fun T locs X _ _ q => XS.idiv X.here C.1 rfl (hb C.2.2.1 hd) rfl hy q) g
theorem ldiv (C : Cx p s m meth c Z n0 own bytes ml ret) {x y z : Int64} (hd : decode bytes pc = .ok (.ldiv, 1)) (hp : pc + 1 = pc') (hy : y ≠ 0) (hv : x / y = z)
    (g : Go p l e R s m args below meth c Y n0 G h k n (mkF m pc' Ls (.long z :: S))) : Go p l e R s m args below meth c Y n0 G h k n (mkF m pc Ls (.long y :: .long x :: S)) := by
  subst hp hv; exact stepG (fun T locs X _ _ q => XS.ldiv X.here C.1 rfl (hb C.2.2.1 hd) rfl hy q) g
theorem irem (C : Cx p s m meth c Z n0 own bytes ml ret) {x y z : Int32} (hd : decode bytes pc = .ok (.irem, 1)) (hp : pc + 1 = pc') (hy : y ≠ 0) (hv : x % y = z)
    (g : Go p l e R s m args below meth c Y n0 G h k n (mkF m pc' Ls (.int z :: S))) : Go p l e R s m args below meth c Y n0 G h k n (mkF m pc Ls (.int y :: .int x :: S)) := by
  subst hp; rw [← irem_eq_mod x y] at hv; subst hv; exact stepG (fun T locs X _ _ q => XS.irem X.here C.1 rfl (hb C.2.2.1 hd) rfl hy q) g
theorem lrem (C : Cx p s m meth c Z n0 own bytes ml ret) {x y z : Int64} (hd : decode bytes pc = .ok (.lrem, 1)) (hp : pc + 1 = pc') (hy : y ≠ 0) (hv : x % y = z)
    (g : Go p l e R s m args below meth c Y n0 G h k n (mkF m pc' Ls (.long z :: S))) : Go p l e R s m args below meth c Y n0 G h k n (mkF m pc Ls (.long y :: .long x :: S)) := by
  subst hp; rw [← lrem_mod x y] at hv; subst hv; exact stepG (fun T locs X _ _ q => XS.lrem X.here C.1 rfl (hb C.2.2.1 hd) rfl hy q) g
theorem iinc (C : Cx p s m meth c Z n0 own bytes ml ret) {i : Nat} {cst : Int} {x z : Int32} (hd : decode bytes pc = .ok (.iinc i cst, 3)) (hp : pc + 3 = pc') (hl : Ls[i]? = some (.val (.int x))) (hv : x + Int32.ofInt cst = z) (hl' : storeLocals Ls i (.int z) = some Ls')
    (g : Go p l e R s m args below meth c Y n0 G h k n (mkF m pc' Ls' S)) : Go p l e R s m args below meth c Y n0 G h k n (mkF m pc Ls S) := by
  subst hp hv; exact stepG (fun T locs X _ _ q => XS.iinc X.here C.1 rfl (hb C.2.2.1 hd) hl hl' q) g
theorem dup (C : Cx p s m meth c Z n0 own bytes ml ret) {x : Value} (hd : decode bytes pc = .ok (.dup, 1)) (hp : pc + 1 = pc') (hc : x.category = 1)
    (g : Go p l e R s m args below meth c Y n0 G h k n (mkF m pc' Ls (x :: x :: S))) : Go p l e R s m args below meth c Y n0 G h k n (mkF m pc Ls (x :: S)) := by
  subst hp; exact stepG (fun T locs X _ _ q => XS.dup X.here C.1 rfl (hb C.2.2.1 hd) rfl hc q) g
theorem dup_x1 (C : Cx p s m meth c Z n0 own bytes ml ret) {x y : Value} (hd : decode bytes pc = .ok (.dup_x1, 1)) (hp : pc + 1 = pc') (hc : x.category = 1) (hc2 : y.category = 1)
    (g : Go p l e R s m args below meth c Y n0 G h k n (mkF m pc' Ls (x :: y :: x :: S))) : Go p l e R s m args below meth c Y n0 G h k n (mkF m pc Ls (x :: y :: S)) := by
  subst hp; exact stepG (fun T locs X _ _ q => XS.dupX1 X.here C.1 rfl (hb C.2.2.1 hd) rfl hc hc2 q) g
theorem dup2L (C : Cx p s m meth c Z n0 own bytes ml ret) {x : Int64} (hd : decode bytes pc = .ok (.dup2, 1)) (hp : pc + 1 = pc')
    (g : Go p l e R s m args below meth c Y n0 G h k n (mkF m pc' Ls (.long x :: .long x :: S))) : Go p l e R s m args below meth c Y n0 G h k n (mkF m pc Ls (.long x :: S)) := by
  subst hp; exact stepG (fun T locs X _ _ q => Jvm.Free.XT.dup2L X.here C.1 rfl (hb C.2.2.1 hd) rfl q) g
theorem dup2 (C : Cx p s m meth c Z n0 own bytes ml ret) {x y : Value} (hd : decode bytes pc = .ok (.dup2, 1)) (hp : pc + 1 = pc') (hc : x.category = 1) (hc2 : y.category = 1)
    (g : Go p l e R s m args below meth c Y n0 G h k n (mkF m pc' Ls (x :: y :: x :: y :: S))) : Go p l e R s m args below meth c Y n0 G h k n (mkF m pc Ls (x :: y :: S)) := by
  subst hp; exact stepG (fun T locs X _ _ q => Jvm.Free.XT.dup2 X.here C.1 rfl (hb C.2.2.1 hd) rfl hc hc2 q) g
theorem pop (C : Cx p s m meth c Z n0 own bytes ml ret) {x : Value} (hd : decode bytes pc = .ok (.pop, 1)) (hp : pc + 1 = pc') (hc : x.category = 1)
    (g : Go p l e R s m args below meth c Y n0 G h k n (mkF m pc' Ls S)) : Go p l e R s m args below meth c Y n0 G h k n (mkF m pc Ls (x :: S)) := by
  subst hp; exact stepG (fun T locs X _ _ q => XS.pop X.here C.1 rfl (hb C.2.2.1 hd) rfl hc q) g
theorem goto (C : Cx p s m meth c Z n0 own bytes ml ret) {o : Int} (hd : decode bytes pc = .ok (.goto o, 3)) (ho : 0 ≤ (pc : Int) + o) (hp : ((pc : Int) + o).toNat = pc')
    (g : Go p l e R s m args below meth c Y n0 G h k n (mkF m pc' Ls S)) : Go p l e R s m args below meth c Y n0 G h k n (mkF m pc Ls S) := by
  exact stepG (fun T locs X _ _ q => XS.goto X.here C.1 rfl (pc0 := pc) rfl (hb C.2.2.1 hd) ho hp q) g

/-! branches: P: taken, P': not taken -/
theorem icmp (C : Cx p s m meth c Z n0 own bytes ml ret) {cd : ClassFile.Cond} {o : Int} {x y : Int32} (hd : decode bytes pc = .ok (.if_icmp cd o, 3)) (ho : 0 ≤ (pc : Int) + o) (hp : ((pc : Int) + o).toNat = pc') (hn : pc + 3 = pn)
    {P P' : Prop} (q : (P → if_icmp.holds cd x y = true) ∧ (P' → if_icmp.holds cd x y = false) ∧ (P ∨ P'))
    (g1 : P → Go p l e R s m args below meth c Y n0 G h k n (mkF m pc' Ls S)) (g2 : P' → Go p l e R s m args below meth c Y n0 G h k n (mkF m pn Ls S)) : Go p l e R s m args below meth c Y n0 G h k n (mkF m pc Ls (.int y :: .int x :: S)) := by
  rcases q.2.2 with hP | hP
  · exact stepG (fun T locs X _ _ z => XS.icmpYes X.here C.1 rfl (pc0 := pc) rfl (hb C.2.2.1 hd) rfl (q.1 hP) ho hp z) (g1 hP)
  · subst hn; exact stepG (fun T locs X _ _ z => XS.icmpNo X.here C.1 rfl (hb C.2.2.1 hd) rfl (q.2.1 hP) z) (g2 hP)
theorem ifc (C : Cx p s m meth c Z n0 own bytes ml ret) {cd : ClassFile.Cond} {o : Int} {x : Int32} (hd : decode bytes pc = .ok (.ifCond cd o, 3)) (ho : 0 ≤ (pc : Int) + o) (hp : ((pc : Int) + o).toNat = pc') (hn : pc + 3 = pn)
    {P P' : Prop} (q : (P → if_icmp.holds cd x 0 = true) ∧ (P' → if_icmp.holds cd x 0 = false) ∧ (P ∨ P'))
    (g1 : P → Go p l e R s m args below meth c Y n0 G h k n (mkF m pc' Ls S)) (g2 : P' → Go p l e R s m args below meth c Y n0 G h k n (mkF m pn Ls S)) : Go p l e R s m args below meth c Y n0 G h k n (mkF m pc Ls (.int x :: S)) := by
  rcases q.2.2 with hP | hP
  · exact stepG (fun T locs X _ _ z => XS.ifYes X.here C.1 rfl (pc0 := pc) rfl (hb C.2.2.1 hd) rfl ((if0 _ _).trans (q.1 hP)) ho hp z) (g1 hP)
  · subst hn; exact stepG (fun T locs X _ _ z => XS.ifNo X.here C.1 rfl (hb C.2.2.1 hd) rfl ((if0 _ _).trans (q.2.1 hP)) z) (g2 hP)
/-- lcmp and the branch behind it -/
theorem lcif (C : Cx p s m meth c Z n0 own bytes ml ret) {cd : ClassFile.Cond} {o : Int} {x y : Int64} {pm : Nat} (hd0 : decode bytes pc = .ok (.lcmp, 1)) (hm : pc + 1 = pm) (hd : decode bytes pm = .ok (.ifCond cd o, 3)) (ho : 0 ≤ (pm : Int) + o) (hp : ((pm : Int) + o).toNat = pc') (hn : pm + 3 = pn)
    {P P' : Prop} (q : (P → if_icmp.holds cd (lcmpW x y) 0 = true) ∧ (P' → if_icmp.holds cd (lcmpW x y) 0 = false) ∧ (P ∨ P'))
    (g1 : P → Go p l e R s m args below meth c Y n0 G h k n (mkF m pc' Ls S)) (g2 : P' → Go p l e R s m args below meth c Y n0 G h k n (mkF m pn Ls S)) : Go p l e R s m args below meth c Y n0 G h k n (mkF m pc Ls (.long y :: .long x :: S)) := by
  subst hm
  exact stepG (fun T locs X _ _ z => XS.lcmp X.here C.1 rfl (hb C.2.2.1 hd0) rfl z) (ifc C hd ho hp hn q g1 g2)
theorem q_lt (x y : Int32) : (x.toInt < y.toInt → if_icmp.holds .lt x y = true) ∧ (y.toInt ≤ x.toInt → if_icmp.holds .lt x y = false) ∧ (x.toInt < y.toInt ∨ y.toInt ≤ x.toInt) :=
  ⟨fun q => (tlt (Int32.lt_iff_toInt_lt.mpr q)).1, fun q => (flt (fun w => absurd (Int32.lt_iff_toInt_lt.mp w) (Int.not_lt.mpr q))).1, Int.lt_or_le _ _⟩
theorem q_ge (x y : Int32) : (y.toInt ≤ x.toInt → if_icmp.holds .ge x y = true) ∧ (x.toInt < y.toInt → if_icmp.holds .ge x y = false) ∧ (y.toInt ≤ x.toInt ∨ x.toInt < y.toInt) :=
  ⟨fun q => (flt (fun w => absurd (Int32.lt_iff_toInt_lt.mp w) (Int.not_lt.mpr q))).2.1, fun q => (tlt (Int32.lt_iff_toInt_lt.mpr q)).2.1, (Int.lt_or_le _ _).symm⟩
theorem q_gt (x y : Int32) : (y.toInt < x.toInt → if_icmp.holds .gt x y = true) ∧ (x.toInt ≤ y.toInt → if_icmp.holds .gt x y = false) ∧ (y.toInt < x.toInt ∨ x.toInt ≤ y.toInt) :=
  ⟨fun q => (tlt (Int32.lt_iff_toInt_lt.mpr q)).2.2.1, fun q => (flt (fun w => absurd (Int32.lt_iff_toInt_lt.mp w) (Int.not_lt.mpr q))).2.2.1, Int.lt_or_le _ _⟩
theorem q_le (x y : Int32) : (x.toInt ≤ y.toInt → if_icmp.holds .le x y = true) ∧ (y.toInt < x.toInt → if_icmp.holds .le x y = false) ∧ (x.toInt ≤ y.toInt ∨ y.toInt < x.toInt) :=
  ⟨fun q => (flt (fun w => absurd (Int32.lt_iff_toInt_lt.mp w) (Int.not_lt.mpr q))).2.2.2, fun q => (tlt (Int32.lt_iff_toInt_lt.mpr q)).2.2.2, (Int.lt_or_le _ _).symm⟩
theorem q_eq (x y : Int32) : (x = y → if_icmp.holds .eq x y = true) ∧ (¬ x = y → if_icmp.holds .eq x y = false) ∧ (x = y ∨ ¬ x = y) := ⟨fun q => (teq q).1, fun q => (feq q).1, Classical.em _⟩
theorem q_ne (x y : Int32) : (¬ x = y → if_icmp.holds .ne x y = true) ∧ (x = y → if_icmp.holds .ne x y = false) ∧ (¬ x = y ∨ x = y) := ⟨fun q => (feq q).2, fun q => (teq q).2, (Classical.em _).symm⟩
theorem ql_lt (x y : Int64) : (x.toInt < y.toInt → if_icmp.holds .lt (lcmpW x y) 0 = true) ∧ (y.toInt ≤ x.toInt → if_icmp.holds .lt (lcmpW x y) 0 = false) ∧ (x.toInt < y.toInt ∨ y.toInt ≤ x.toInt) :=
  ⟨fun q => (tlt ((lw_lt x y).mpr (Int64.lt_iff_toInt_lt.mpr q))).1, fun q => (flt (fun w => absurd (Int64.lt_iff_toInt_lt.mp ((lw_lt x y).mp w)) (Int.not_lt.mpr q))).1, Int.lt_or_le _ _⟩
theorem ql_ge (x y : Int64) : (y.toInt ≤ x.toInt → if_icmp.holds .ge (lcmpW x y) 0 = true) ∧ (x.toInt < y.toInt → if_icmp.holds .ge (lcmpW x y) 0 = false) ∧ (y.toInt ≤ x.toInt ∨ x.toInt < y.toInt) :=
  ⟨fun q => (flt (fun w => absurd (Int64.lt_iff_toInt_lt.mp ((lw_lt x y).mp w)) (Int.not_lt.mpr q))).2.1, fun q => (tlt ((lw_lt x y).mpr (Int64.lt_iff_toInt_lt.mpr q))).2.1, (Int.lt_or_le _ _).symm⟩
theorem ql_gt (x y : Int64) : (y.toInt < x.toInt → if_icmp.holds .gt (lcmpW x y) 0 = true) ∧ (x.toInt ≤ y.toInt → if_icmp.holds .gt (lcmpW x y) 0 = false) ∧ (y.toInt < x.toInt ∨ x.toInt ≤ y.toInt) :=
  ⟨fun q => (tlt ((lw_gt x y).mpr (Int64.lt_iff_toInt_lt.mpr q))).2.2.1, fun q => (flt (fun w => absurd (Int64.lt_iff_toInt_lt.mp ((lw_gt x y).mp w)) (Int.not_lt.mpr q))).2.2.1, Int.lt_or_le _ _⟩
theorem ql_le (x y : Int64) : (x.toInt ≤ y.toInt → if_icmp.holds .le (lcmpW x y) 0 = true) ∧ (y.toInt < x.toInt → if_icmp.holds .le (lcmpW x y) 0 = false) ∧ (x.toInt ≤ y.toInt ∨ y.toInt < x.toInt) :=
  ⟨fun q => (flt (fun w => absurd (Int64.lt_iff_toInt_lt.mp ((lw_gt x y).mp w)) (Int.not_lt.mpr q))).2.2.2, fun q => (tlt ((lw_gt x y).mpr (Int64.lt_iff_toInt_lt.mpr q))).2.2.2, (Int.lt_or_le _ _).symm⟩
theorem ql_eq (x y : Int64) : (x = y → if_icmp.holds .eq (lcmpW x y) 0 = true) ∧ (¬ x = y → if_icmp.holds .eq (lcmpW x y) 0 = false) ∧ (x = y ∨ ¬ x = y) := ⟨fun q => (teq ((lw_eq x y).mpr q)).1, fun q => (feq (fun w => q ((lw_eq x y).mp w))).1, Classical.em _⟩
theorem ql_ne (x y : Int64) : (¬ x = y → if_icmp.holds .ne (lcmpW x y) 0 = true) ∧ (x = y → if_icmp.holds .ne (lcmpW x y) 0 = false) ∧ (¬ x = y ∨ x = y) := ⟨fun q => (feq (fun w => q ((lw_eq x y).mp w))).2, fun q => (teq ((lw_eq x y).mpr q)).2, (Classical.em _).symm⟩

theorem acmp (C : Cx p s m meth c Z n0 own bytes ml ret) {cd : ACond} {o : Int} {x y : Value} (h1 : x.isRef = true) (h2 : y.isRef = true) (hd : decode bytes pc = .ok (.if_acmp cd o, 3)) (ho : 0 ≤ (pc : Int) + o) (hp : ((pc : Int) + o).toNat = pc') (hn : pc + 3 = pn)
    {P P' : Prop} (q : (P → acV cd (decide (x = y)) = true) ∧ (P' → acV cd (decide (x = y)) = false) ∧ (P ∨ P'))
    (g1 : P → Go p l e R s m args below meth c Y n0 G h k n (mkF m pc' Ls S)) (g2 : P' → Go p l e R s m args below meth c Y n0 G h k n (mkF m pn Ls S)) : Go p l e R s m args below meth c Y n0 G h k n (mkF m pc Ls (y :: x :: S)) := by
  rcases q.2.2 with hP | hP
  · exact stepG (fun T locs X _ _ z => Jvm.RoadKit.acmp (g := mkF m pc Ls (y :: x :: S)) X C.1 rfl h1 h2 (pc0 := pc) (pc' := pc') (same := decide (x = y)) rfl (hb C.2.2.1 hd) rfl rfl ho (by rw [q.1 hP]; exact hp.symm) z) (g1 hP)
  · exact stepG (fun T locs X _ _ z => Jvm.RoadKit.acmp (g := mkF m pc Ls (y :: x :: S)) X C.1 rfl h1 h2 (pc0 := pc) (pc' := pn) (same := decide (x = y)) rfl (hb C.2.2.1 hd) rfl rfl ho (by rw [q.2.1 hP]; exact hn.symm) z) (g2 hP)
theorem qa_eq (a b : Addr) : (a = b → acV .eq (decide (Value.ref a = Value.ref b)) = true) ∧ (¬ a = b → acV .eq (decide (Value.ref a = Value.ref b)) = false) ∧ (a = b ∨ ¬ a = b) :=
  ⟨fun q => decide_eq_true (congrArg Value.ref q), fun q => decide_eq_false fun z => q (Value.ref.inj z), Classical.em _⟩
theorem qa_ne (a b : Addr) : (¬ a = b → acV .ne (decide (Value.ref a = Value.ref b)) = true) ∧ (a = b → acV .ne (decide (Value.ref a = Value.ref b)) = false) ∧ (¬ a = b ∨ a = b) :=
  ⟨fun q => by rw [decide_eq_false fun z => q (Value.ref.inj z)]; rfl, fun q => by rw [decide_eq_true (congrArg Value.ref q)]; rfl, (Classical.em _).symm⟩
theorem ifnullT (C : Cx p s m meth c Z n0 own bytes ml ret) {o : Int} (hd : decode bytes pc = .ok (.ifnull o, 3)) (ho : 0 ≤ (pc : Int) + o) (hp : ((pc : Int) + o).toNat = pc')
    (g : Go p l e R s m args below meth c Y n0 G h k n (mkF m pc' Ls S)) : Go p l e R s m args below meth c Y n0 G h k n (mkF m pc Ls (.null :: S)) := stepG (fun T locs X _ _ z => XS.ifnullYes X.here C.1 rfl (pc0 := pc) rfl (hb C.2.2.1 hd) rfl ho hp z) g
theorem ifnullF (C : Cx p s m meth c Z n0 own bytes ml ret) {o : Int} {a : Addr} (hd : decode bytes pc = .ok (.ifnull o, 3)) (hp : pc + 3 = pc')
    (g : Go p l e R s m args below meth c Y n0 G h k n (mkF m pc' Ls S)) : Go p l e R s m args below meth c Y n0 G h k n (mkF m pc Ls (.ref a :: S)) := by subst hp; exact stepG (fun T locs X _ _ z => XS.ifnullNo X.here C.1 rfl (hb C.2.2.1 hd) rfl z) g
theorem ifnonnullT (C : Cx p s m meth c Z n0 own bytes ml ret) {o : Int} {a : Addr} (hd : decode bytes pc = .ok (.ifnonnull o, 3)) (ho : 0 ≤ (pc : Int) + o) (hp : ((pc : Int) + o).toNat = pc')
    (g : Go p l e R s m args below meth c Y n0 G h k n (mkF m pc' Ls S)) : Go p l e R s m args below meth c Y n0 G h k n (mkF m pc Ls (.ref a :: S)) := stepG (fun T locs X _ _ z => XS.ifnonnullYes X.here C.1 rfl (pc0 := pc) rfl (hb C.2.2.1 hd) rfl ho hp z) g
theorem ifnonnullF (C : Cx p s m meth c Z n0 own bytes ml ret) {o : Int} (hd : decode bytes pc = .ok (.ifnonnull o, 3)) (hp : pc + 3 = pc')
    (g : Go p l e R s m args below meth c Y n0 G h k n (mkF m pc' Ls S)) : Go p l e R s m args below meth c Y n0 G h k n (mkF m pc Ls (.null :: S)) := by subst hp; exact stepG (fun T locs X _ _ z => XS.ifnonnullNo X.here C.1 rfl (hb C.2.2.1 hd) rfl z) g

/-! returns -/
theorem retZ {t : FieldType} (C : Cx p s m meth c Z n0 own bytes ml (some t)) {z w : Int32} (ht : t = .boolean ∨ t = .byte ∨ t = .char ∨ t = .short) (hd : decode bytes pc = .ok (.ireturn, 1)) (hv : nar t z = w) (hk : k ≤ K) (hn : n ≤ N) (hY : ∀ s₂ o L, s₂.heap = h → FrameEnd s o s₂ L K N → Y s₂ o L) (g : G (some (.int w)) h) :
    Go p l e R s m args below meth c Y n0 G h k n (mkF m pc Ls (.int z :: S)) := fun T ⟨locs, F, X, eT⟩ => by
  subst hv eT
  have hlk : meth.locks = false := C.2.2.2.2.2.2.1
  obtain ⟨fs, hr, hrun, hended, hW, hsame⟩ := X.leave (v := some (.int (nar t z))) (fun q => by rw [C.2.2.2.2.2.1] at q; cases q) hlk
  exact ⟨_, _, retN X C.1 (t := t) C.2.2.2.2.2.1 ht (hb C.2.2.1 hd) hr, hrun, hended, _, _, rfl, ⟨g, F⟩, hY _ _ _ rfl ⟨⟨_, rfl⟩, hW, hsame.mono hk hn⟩⟩
theorem retV {t : FieldType} (C : Cx p s m meth c Z n0 own bytes ml (some t)) {w : Value} {i : Instr} (hv : narrow t w = w)
    (hi : (i = .ireturn ∧ (t = .int ∨ t = .boolean ∨ t = .byte ∨ t = .char ∨ t = .short) ∧ ∃ z, w = .int z) ∨ (i = .lreturn ∧ t = .long ∧ ∃ z, w = .long z) ∨ (i = .dreturn ∧ t = .double ∧ ∃ z, w = .double z) ∨ (i = .freturn ∧ t = .float ∧ ∃ z, w = .float z) ∨ (i = .areturn ∧ t.isReference = true ∧ w.isRef = true))
    (hd : decode bytes pc = .ok (i, 1)) (hk : k ≤ K) (hn : n ≤ N) (hY : ∀ s₂ o L, s₂.heap = h → FrameEnd s o s₂ L K N → Y s₂ o L) (g : G (some w) h) :
    Go p l e R s m args below meth c Y n0 G h k n (mkF m pc Ls (w :: S)) := fun T ⟨locs, F, X, eT⟩ => by
  subst eT
  have hlk : meth.locks = false := C.2.2.2.2.2.2.1
  obtain ⟨fs, hr, hrun, hended, hW, hsame⟩ := X.leave (v := some w) (fun q => by rw [C.2.2.2.2.2.1] at q; cases q) hlk
  exact ⟨_, _, retOut X C.1 (t := t) C.2.2.2.2.2.1 hv hi (hb C.2.2.1 hd) hr, hrun, hended, _, _, rfl, ⟨g, F⟩, hY _ _ _ rfl ⟨⟨_, rfl⟩, hW, hsame.mono hk hn⟩⟩
theorem retI (C : Cx p s m meth c Z n0 own bytes ml (some .int)) {z : Int32} (hd : decode bytes pc = .ok (.ireturn, 1)) (hk : k ≤ K) (hn : n ≤ N) (hY : ∀ s₂ o L, s₂.heap = h → FrameEnd s o s₂ L K N → Y s₂ o L) (g : G (some (.int z)) h) :
    Go p l e R s m args below meth c Y n0 G h k n (mkF m pc Ls (.int z :: S)) := retV C rfl (Or.inl ⟨rfl, Or.inl rfl, _, rfl⟩) hd hk hn hY g
theorem retL (C : Cx p s m meth c Z n0 own bytes ml (some .long)) {z : Int64} (hd : decode bytes pc = .ok (.lreturn, 1)) (hk : k ≤ K) (hn : n ≤ N) (hY : ∀ s₂ o L, s₂.heap = h → FrameEnd s o s₂ L K N → Y s₂ o L) (g : G (some (.long z)) h) :
    Go p l e R s m args below meth c Y n0 G h k n (mkF m pc Ls (.long z :: S)) := retV C rfl (Or.inr (Or.inl ⟨rfl, rfl, _, rfl⟩)) hd hk hn hY g
theorem retA {t : FieldType} (C : Cx p s m meth c Z n0 own bytes ml (some t)) {w : Value} (ht : t.isReference = true) (hw : w.isRef = true) (hn' : narrow t w = w) (hd : decode bytes pc = .ok (.areturn, 1)) (hk : k ≤ K) (hn : n ≤ N) (hY : ∀ s₂ o L, s₂.heap = h → FrameEnd s o s₂ L K N → Y s₂ o L) (g : G (some w) h) :
    Go p l e R s m args below meth c Y n0 G h k n (mkF m pc Ls (w :: S)) := retV C hn' (Or.inr (Or.inr (Or.inr (Or.inr ⟨rfl, ht, hw⟩)))) hd hk hn hY g
theorem ret0 (C : Cx p s m meth c Z n0 own bytes ml none) (hd : decode bytes pc = .ok (.return_, 1)) (hk : k ≤ K) (hn : n ≤ N) (hY : ∀ s₂ o L, s₂.heap = h → FrameEnd s o s₂ L K N → Y s₂ o L) (g : G none h) :
    Go p l e R s m args below meth c Y n0 G h k n (mkF m pc Ls []) := fun T ⟨locs, F, X, eT⟩ => by
  subst eT
  have hlk : meth.locks = false := C.2.2.2.2.2.2.1
  obtain ⟨fs, hr, hrun, hended, hW, hsame⟩ := X.leave (v := none) (fun _ => rfl) hlk
  exact ⟨_, _, X.returnOut C.1 C.2.2.2.2.2.1 (hb C.2.2.1 hd) hr, hrun, hended, _, _, rfl, ⟨g, F⟩, hY _ _ _ rfl ⟨⟨_, rfl⟩, hW, hsame.mono hk hn⟩⟩

theorem hz (C : Cx p s m meth c Z n0 own bytes ml ret) {T : State} {locs : List Loc} (X : Stand p l e R s m args below meth c T locs k n) (eT : T.heap = h) : n0 ≤ h.size := eT ▸ Nat.le_trans C.2.2.2.2.2.2.2 X.same.2.1
/-! calls -/
theorem callS (C : Cx p s m meth c Z n0 own bytes ml ret) {i : Nat} {y : MethodName} {b' : ByteArray} {mL : Nat} {r' : Option FieldType} {rm : Room} {Gc : Option Value → Heap → Prop} {argsL rest : List Value} {W : Nat}
    (w1 : (Cond.methodLink own i y).before a0 Z = true) (w2 : (Cond.static y).before a0 Z = true) (w3 : (Cond.initialized y.cls).before a0 Z = true) (w4 : (Cond.code y b' mL r').before a0 Z = true)
    (hy : y.cls ≠ "java/lang/invoke/MethodHandle" ∧ y.cls ≠ "java/lang/invoke/VarHandle") (con : n0 ≤ h.size → Con l Z y b' mL r' [] rm rm.cells rm.slots argsL.toArray h n0 Gc)
    (hd : decode bytes pc = .ok (.invokestatic i, 3)) (hp : pc + 3 = pc') (hsz : Ls.size = ml) {ps : List FieldType} {rr : Option FieldType} (hds : parseMethodDescriptor y.desc = some ⟨ps, rr⟩) (hlen : argsL.length = ps.length)
    (hS : S = argsL.reverse ++ rest) (hW : (rest.map fun v => v.category).sum = W) (hf : rm.frames + 1 ≤ R.frames) (hl : W + (mL + 11) + rm.locals ≤ R.locals) (hc : k + rm.cells ≤ R.cells) (hs : n + rm.slots ≤ R.slots) {k' n' : Nat} (hk' : k + rm.cells = k') (hn' : n + rm.slots = n')
    (g : ∀ h' v, Gc v h' → Go p l e R s m args below meth c Y n0 G h' k' n' (mkF m pc' Ls (v.toList ++ rest))) :
    Go p l e R s m args below meth c Y n0 G h k n (mkF m pc Ls S) := fun T ⟨locs, F, X, eT⟩ => by
  subst hp hS hk' hn'
  obtain ⟨v, _, ⟨T', L', k', n'⟩, -, X', ⟨Lc, ⟨hQ, hF⟩, l1, y1, z1⟩, st⟩ := Jvm.LawKit.callS X C.1 C.2.2.2.2.1 (mvT C.2.1 w1) (mvT C.2.1 w2) (mvT C.2.1 w3) (mvT C.2.1 w4) hy
    (backOf (W := W) (Q := fun v h L => Gc v h ∧ Fr n0 L) (con (hz C X eT)) C.2.1 w4 w3 hf hl) (g := mkF m pc Ls (argsL.reverse ++ rest)) rfl (hsz.trans C.2.2.2.1.symm) (argsL := argsL) (rest := rest) (lenOf hds hlen) rfl (by show 2 * 0 + _ ≤ _; rw [Nat.mul_zero, Nat.zero_add]; exact Nat.le_of_eq hW) (hb C.2.2.1 hd) (fun _ _ => ⟨rfl, eT, hc, hs⟩)
  dsimp only [Pt.U, Pt.locs, Pt.cells, Pt.slots] at X' l1 y1 z1 st hQ
  subst l1 y1 z1
  exact step (fun t q => st t q) (g T'.heap v hQ T' ⟨_, Fr.app F hF, X', rfl⟩)
theorem callSp (C : Cx p s m meth c Z n0 own bytes ml ret) {i : Nat} {y : MethodName} {b' : ByteArray} {mL : Nat} {rm : Room} {Gc : Option Value → Heap → Prop} {a : Addr} {argsL rest : List Value} {W : Nat} (hy1 : y.name = "<init>")
    (w1 : (Cond.methodLink own i y).before a0 Z = true) (w2 : (Cond.instanceMethod y).before a0 Z = true) (w3 : (Cond.initialized y.cls).before a0 Z = true) (w4 : (Cond.code y b' mL none).before a0 Z = true)
    (hy : y.cls ≠ "java/lang/invoke/MethodHandle" ∧ y.cls ≠ "java/lang/invoke/VarHandle") (con : n0 ≤ h.size → Con l Z y b' mL none [] rm rm.cells rm.slots (.ref a :: argsL).toArray h n0 Gc)
    (hd : decode bytes pc = .ok (.invokespecial i, 3)) (hp : pc + 3 = pc') (hsz : Ls.size = ml) {ps : List FieldType} {rr : Option FieldType} (hds : parseMethodDescriptor y.desc = some ⟨ps, rr⟩) (hlen : argsL.length = ps.length)
    (hS : S = argsL.reverse ++ .ref a :: rest) (hW : (rest.map fun v => v.category).sum = W) (hf : rm.frames + 1 ≤ R.frames) (hl : W + (mL + 11) + rm.locals ≤ R.locals) (hc : k + rm.cells ≤ R.cells) (hs : n + rm.slots ≤ R.slots) {k' n' : Nat} (hk' : k + rm.cells = k') (hn' : n + rm.slots = n')
    (g : ∀ h' v, Gc v h' → Go p l e R s m args below meth c Y n0 G h' k' n' (mkF m pc' Ls (v.toList ++ rest))) :
    Go p l e R s m args below meth c Y n0 G h k n (mkF m pc Ls S) := fun T ⟨locs, F, X, eT⟩ => by
  subst hp hS hk' hn'
  obtain ⟨v, _, ⟨T', L', k', n'⟩, -, X', ⟨Lc, ⟨hQ, hF⟩, l1, y1, z1⟩, st⟩ := X.specialBack C.1 hy1 C.2.2.2.2.1 (mvT C.2.1 w1) (mvT C.2.1 w2) (mvT C.2.1 w4) hy
    (backOf (W := W) (Q := fun v h L => Gc v h ∧ Fr n0 L) (con (hz C X eT)) C.2.1 w4 w3 hf hl) (g := mkF m pc Ls (argsL.reverse ++ .ref a :: rest)) rfl (hsz.trans C.2.2.2.1.symm) (Steps.refl _) (a := a) (argsL := argsL) (rest := rest) (lenOf hds hlen) rfl (by show 2 * 0 + _ ≤ _; rw [Nat.mul_zero, Nat.zero_add]; exact Nat.le_of_eq hW) (hb C.2.2.1 hd) (fun _ _ => ⟨rfl, eT, hc, hs⟩)
  dsimp only [Pt.U, Pt.locs, Pt.cells, Pt.slots] at X' l1 y1 z1 st hQ
  subst l1 y1 z1
  exact step (fun t q => st.trans q) (g T'.heap v hQ T' ⟨_, Fr.app F hF, X', rfl⟩)
theorem callV (C : Cx p s m meth c Z n0 own bytes ml ret) {i : Nat} {y z : MethodName} {b' : ByteArray} {mL : Nat} {r' : Option FieldType} {rm : Room} {Gc : Option Value → Heap → Prop} {a : Addr} {argsL rest : List Value} {W : Nat} {Cn : String}
    (w1 : (Cond.methodLink own i y).before a0 Z = true) (w2 : (Cond.declares y).before a0 Z = true) (hnf : NotFace s y) (w5 : (Cond.selects Cn y z).before a0 Z = true) (w6 : (Cond.instanceMethod z).before a0 Z = true) (w3 : (Cond.initialized z.cls).before a0 Z = true) (w4 : (Cond.code z b' mL r').before a0 Z = true)
    (hy : y.cls ≠ "java/lang/invoke/MethodHandle" ∧ y.cls ≠ "java/lang/invoke/VarHandle") (E : Exa Z h a Cn) (con : n0 ≤ h.size → Con l Z z b' mL r' [] rm rm.cells rm.slots (.ref a :: argsL).toArray h n0 Gc)
    (hd : decode bytes pc = .ok (.invokevirtual i, 3)) (hp : pc + 3 = pc') (hsz : Ls.size = ml) {ps : List FieldType} {rr : Option FieldType} (hds : parseMethodDescriptor y.desc = some ⟨ps, rr⟩) (hlen : argsL.length = ps.length)
    (hS : S = argsL.reverse ++ .ref a :: rest) (hW : (rest.map fun v => v.category).sum = W) (hf : rm.frames + 1 ≤ R.frames) (hl : W + (mL + 11) + rm.locals ≤ R.locals) (hc : k + rm.cells ≤ R.cells) (hs : n + rm.slots ≤ R.slots) {k' n' : Nat} (hk' : k + rm.cells = k') (hn' : n + rm.slots = n')
    (g : ∀ h' v, Gc v h' → Go p l e R s m args below meth c Y n0 G h' k' n' (mkF m pc' Ls (v.toList ++ rest))) :
    Go p l e R s m args below meth c Y n0 G h k n (mkF m pc Ls S) := fun T ⟨locs, F, X, eT⟩ => by
  subst hp hS hk' hn'
  obtain ⟨cq, kq, qa, qb, qc⟩ := isOf C.2.1 eT E
  obtain ⟨v, _, ⟨T', L', k', n'⟩, -, X', ⟨Lc, ⟨hQ, hF⟩, l1, y1, z1⟩, st⟩ := X.virtualBack C.1 C.2.2.2.2.1 (mvT C.2.1 w1) (mvT C.2.1 w2) hnf (mvT C.2.1 w5) (mvT C.2.1 w6) hy
    (backOf (W := W) (Q := fun v h L => Gc v h ∧ Fr n0 L) (con (hz C X eT)) C.2.1 w4 w3 hf hl) qa qc (g := mkF m pc Ls (argsL.reverse ++ .ref a :: rest)) rfl (hsz.trans C.2.2.2.1.symm) (Steps.refl _) (argsL := argsL) (rest := rest) (lenOf hds hlen) rfl (by show 2 * 0 + _ ≤ _; rw [Nat.mul_zero, Nat.zero_add]; exact Nat.le_of_eq hW) (hb C.2.2.1 hd) (fun _ _ => ⟨rfl, eT, hc, hs⟩)
  dsimp only [Pt.U, Pt.locs, Pt.cells, Pt.slots] at X' l1 y1 z1 st hQ
  subst l1 y1 z1
  exact step (fun t q => st.trans q) (g T'.heap v hQ T' ⟨_, Fr.app F hF, X', rfl⟩)
theorem callI (C : Cx p s m meth c Z n0 own bytes ml ret) {i cnt : Nat} {y z : MethodName} {b' : ByteArray} {mL : Nat} {r' : Option FieldType} {rm : Room} {Gc : Option Value → Heap → Prop} {a : Addr} {argsL rest : List Value} {W : Nat} {Cn : String}
    (w1 : (Cond.methodLink own i y).before a0 Z = true) (w2 : (Cond.declares y).before a0 Z = true) (w7 : (Cond.interfaceMethod y.cls y.cls y.name y.desc).before a0 Z = true) (w5 : (Cond.selects Cn y z).before a0 Z = true) (w6 : (Cond.instanceMethod z).before a0 Z = true) (w8 : (Cond.publicMethod z).before a0 Z = true) (w9 : (Cond.unhidden Cn y.name y.desc).before a0 Z = true) (w10 : (Cond.castable Cn y.cls).before a0 Z = true)
    (w3 : (Cond.initialized z.cls).before a0 Z = true) (w4 : (Cond.code z b' mL r').before a0 Z = true)
    (hy : y.cls ≠ "java/lang/invoke/MethodHandle" ∧ y.cls ≠ "java/lang/invoke/VarHandle") (E : Exa Z h a Cn) (con : n0 ≤ h.size → Con l Z z b' mL r' [] rm rm.cells rm.slots (.ref a :: argsL).toArray h n0 Gc)
    (hd : decode bytes pc = .ok (.invokeinterface i cnt, 5)) (hp : pc + 5 = pc') (hsz : Ls.size = ml) {ps : List FieldType} {rr : Option FieldType} (hds : parseMethodDescriptor y.desc = some ⟨ps, rr⟩) (hlen : argsL.length = ps.length)
    (hS : S = argsL.reverse ++ .ref a :: rest) (hW : (rest.map fun v => v.category).sum = W) (hf : rm.frames + 1 ≤ R.frames) (hl : W + (mL + 11) + rm.locals ≤ R.locals) (hc : k + rm.cells ≤ R.cells) (hs : n + rm.slots ≤ R.slots) {k' n' : Nat} (hk' : k + rm.cells = k') (hn' : n + rm.slots = n')
    (g : ∀ h' v, Gc v h' → Go p l e R s m args below meth c Y n0 G h' k' n' (mkF m pc' Ls (v.toList ++ rest))) :
    Go p l e R s m args below meth c Y n0 G h k n (mkF m pc Ls S) := fun T ⟨locs, F, X, eT⟩ => by
  subst hp hS hk' hn'
  obtain ⟨cq, kq, qa, qb, qc⟩ := isOf C.2.1 eT E
  obtain ⟨v, _, ⟨T', L', k', n'⟩, -, X', ⟨Lc, ⟨hQ, hF⟩, l1, y1, z1⟩, st⟩ := X.interfaceBack C.1 C.2.2.2.2.1 (mvT C.2.1 w1) (mvT C.2.1 w2) (mvT C.2.1 w7 (by simp [Cond.onTables, Cond.keepsFace, Cond.keeps, Cond.steady, Cond.faceAtom, hy.1, hy.2])) (mvT C.2.1 w5) (mvT C.2.1 w6) (mvT C.2.1 w8) (mvT C.2.1 w9) (mvT C.2.1 w10) hy
    (backOf (W := W) (Q := fun v h L => Gc v h ∧ Fr n0 L) (con (hz C X eT)) C.2.1 w4 w3 hf hl) qa qb qc (g := mkF m pc Ls (argsL.reverse ++ .ref a :: rest)) rfl (hsz.trans C.2.2.2.1.symm) (Steps.refl _) (argsL := argsL) (rest := rest) (lenOf hds hlen) rfl (by show 2 * 0 + _ ≤ _; rw [Nat.mul_zero, Nat.zero_add]; exact Nat.le_of_eq hW) (hb C.2.2.1 hd) (fun _ _ => ⟨rfl, eT, hc, hs⟩)
  dsimp only [Pt.U, Pt.locs, Pt.cells, Pt.slots] at X' l1 y1 z1 st hQ
  subst l1 y1 z1
  exact step (fun t q => st.trans q) (g T'.heap v hQ T' ⟨_, Fr.app F hF, X', rfl⟩)
/-- a private method by invokevirtual: no 'selects' word is wanted; the class is instantiable -/
theorem callP (C : Cx p s m meth c Z n0 own bytes ml ret) {i q : Nat} {y : MethodName} {b' : ByteArray} {mL : Nat} {r' : Option FieldType} {rm : Room} {Gc : Option Value → Heap → Prop} {a : Addr} {argsL rest : List Value} {W : Nat} {Cn : String}
    (w1 : (Cond.methodLink own i y).before a0 Z = true) (w6 : (Cond.instanceMethod y).before a0 Z = true) (w7 : (Cond.privateMethod y).before a0 Z = true) (w8 : (Cond.instantiable y.cls q).before a0 Z = true) (w3 : (Cond.initialized y.cls).before a0 Z = true) (w4 : (Cond.code y b' mL r').before a0 Z = true)
    (hy : y.cls ≠ "java/lang/invoke/MethodHandle" ∧ y.cls ≠ "java/lang/invoke/VarHandle") (E : Exa Z h a Cn) (con : n0 ≤ h.size → Con l Z y b' mL r' [] rm rm.cells rm.slots (.ref a :: argsL).toArray h n0 Gc)
    (hd : decode bytes pc = .ok (.invokevirtual i, 3)) (hp : pc + 3 = pc') (hsz : Ls.size = ml) {ps : List FieldType} {rr : Option FieldType} (hds : parseMethodDescriptor y.desc = some ⟨ps, rr⟩) (hlen : argsL.length = ps.length)
    (hS : S = argsL.reverse ++ .ref a :: rest) (hW : (rest.map fun v => v.category).sum = W) (hf : rm.frames + 1 ≤ R.frames) (hl : W + (mL + 11) + rm.locals ≤ R.locals) (hc : k + rm.cells ≤ R.cells) (hs : n + rm.slots ≤ R.slots) {k' n' : Nat} (hk' : k + rm.cells = k') (hn' : n + rm.slots = n')
    (g : ∀ h' v, Gc v h' → Go p l e R s m args below meth c Y n0 G h' k' n' (mkF m pc' Ls (v.toList ++ rest))) :
    Go p l e R s m args below meth c Y n0 G h k n (mkF m pc Ls S) := fun T ⟨locs, F, X, eT⟩ => by
  subst hp hS hk' hn'
  obtain ⟨cell, hc1, hc2⟩ := E.cell
  obtain ⟨mk, methM, hnamed, hmethM, hstM, habM⟩ := Cond.instanceMethod_spec (mvT (args := args) C.2.1 w6)
  obtain ⟨methM', cM, hmethM', -, -, -, -, -, -, hsigM⟩ := Cond.code_spec hnamed (mvT (args := args) C.2.1 w4)
  cases hmethM.symm.trans hmethM'
  obtain ⟨cid, kP, z1, z2, z3, z4, -⟩ := Cond.instantiable_spec (mvT (args := args) C.2.1 w8)
  have z5 : cid = mk.cls := Option.some.inj (z1.symm.trans (findClass_of_methodNamed hnamed))
  subst z5
  have z6 : kP.isInterface = false := by simp only [Bool.or_eq_false_iff] at z4; exact z4.1
  obtain ⟨vm₁, X₁, hstep₁⟩ := X.invokevirtual C.1 C.2.2.2.2.1 (mvT C.2.1 w1) hnamed hmethM hstM z2 z6 hy (a := a) (cell := cell) (by rw [eT]; exact hc1) hc2 (selectMethod_private hmethM (Cond.privateMethod_at (mvP C.2.1 w7 (args := #[])) mk methM hnamed hmethM)) hmethM habM z2 z6 (g := mkF m pc Ls (argsL.reverse ++ .ref a :: rest)) rfl (argsL := argsL) (rest := rest) (lenOf hds hlen _ hsigM) rfl (hb C.2.2.1 hd)
  obtain ⟨v, ⟨T', L', k', n'⟩, X', ⟨Lc, ⟨hQ, hF⟩, l1, y1, z1⟩, hsteps⟩ := (backOf (W := W) (len := 3) (Q := fun v h L => Gc v h ∧ Fr n0 L) (con (hz C X eT)) C.2.1 w4 w3 hf hl) m meth c ⟨T.setVm vm₁, locs, k, n⟩ (mkF m pc Ls rest) (.invokevirtual i) mk (.ref a :: argsL).toArray X₁ rfl (hsz.trans C.2.2.2.1.symm) (hb C.2.2.1 hd) (by show 2 * 0 + _ ≤ _; rw [Nat.mul_zero, Nat.zero_add]; exact Nat.le_of_eq hW) (X₁.named hnamed) ⟨rfl, eT, hc, hs⟩
  dsimp only [Pt.U, Pt.locs, Pt.cells, Pt.slots] at X' l1 y1 z1 hsteps hQ
  subst l1 y1 z1
  exact step (fun t q => (hstep₁ _ fun acts => by rw [doInvoke_state]; exact hsteps).trans q) (g T'.heap v hQ T' ⟨_, Fr.app F hF, X', rfl⟩)
theorem arraycopy (C : Cx p s m meth c Z n0 own bytes ml ret) {i : Nat} {a b : Addr} {ka kb : ClassId} {ty : FieldType} {za zb sp dp nn : Int32} {vs vd : List Value} {dv dd : Value} {W : Nat}
    (w1 : (Cond.methodLink own i Jvm.Stand.acN).before a0 Z = true) (w2 : (Cond.native Jvm.Stand.acN).before a0 Z = true) (w3 : (Cond.static Jvm.Stand.acN).before a0 Z = true) (w4 : (Cond.initialized "java/lang/System").before a0 Z = true)
    (A : Arv Z h a ka ty za vs dv) (B : Arv Z h b kb ty zb vd dd) (hty : refKind ty = false) (h1 : 0 ≤ sp.toInt) (h2 : 0 ≤ dp.toInt) (h3 : 0 ≤ nn.toInt) (h4 : sp.toInt + nn.toInt ≤ za.toInt) (h5 : dp.toInt + nn.toInt ≤ zb.toInt) (hl : dp.toInt.toNat + nn.toInt.toNat ≤ vd.length) (ge : n0 ≤ b)
    (hd : decode bytes pc = .ok (.invokestatic i, 3)) (hp : pc + 3 = pc') (hsz : Ls.size = ml) (hf : 1 ≤ R.frames) (hW : (S.map fun v => v.category).sum = W) (hlo : W + 18 ≤ R.locals)
    (g : ∀ h', Keep h h' [b] → Arv Z h' b kb ty zb (vd.take dp.toInt.toNat ++ (List.range nn.toInt.toNat).map (fun j => vs.getD (sp.toInt.toNat + j) dv) ++ vd.drop (dp.toInt.toNat + nn.toInt.toNat)) dd → Go p l e R s m args below meth c Y n0 G h' k n (mkF m pc' Ls S)) :
    Go p l e R s m args below meth c Y n0 G h k n (mkF m pc Ls (.int nn :: .int dp :: .ref b :: .int sp :: .ref a :: S)) := fun T ⟨locs, F, X, eT⟩ => by
  subst hp
  have nn0 : ∀ {x : Int32}, 0 ≤ x.toInt → ¬ x < 0 := fun {x} q w => by have := Int32.lt_iff_toInt_lt.mp w; simp only [Int32.reduceToInt] at this; omega
  obtain ⟨T', h', L', X', e', F', K', V', st⟩ := cpA X C.1 C.2.1 C.2.2.2.2.1 w1 w2 w3 w4 eT A B (Or.inl ⟨rfl, hty⟩) (nn0 h1) (nn0 h2) (nn0 h3) (by show sp.toInt.toNat + nn.toInt.toNat ≤ za.toInt.toNat; omega) (by show dp.toInt.toNat + nn.toInt.toNat ≤ zb.toInt.toNat; omega) rfl hl F ge
    (g := mkF m pc Ls (.int nn :: .int dp :: .ref b :: .int sp :: .ref a :: S)) rfl (hsz.trans C.2.2.2.1.symm) rfl (hb C.2.2.1 hd) hf (W := W) (by show 2 * 0 + _ ≤ _; rw [Nat.mul_zero, Nat.zero_add]; exact Nat.le_of_eq hW) (by show W + (7 + 11) ≤ _; exact hlo)
  exact step st (g h' K' V' T' ⟨_, F', X', e'⟩)
theorem nf_sel (C : Cx p s m meth c Z n0 own bytes ml ret) {Cn : String} {y : MethodName} (w : (Cond.selects Cn y y).before a0 Z = true) : NotFace s y := notFace_of_selects (args := #[]) (mvT C.2.1 w)
theorem initObj (C : Cx p s m meth c Z n0 own bytes ml ret) {i : Nat} {a : Addr} {W : Nat} (w1 : (Cond.methodLink own i Lib.objectInit).before a0 Z = true) (w2 : (Cond.instanceMethod Lib.objectInit).before a0 Z = true) (w3 : (Cond.code Lib.objectInit ⟨#[0xb1]⟩ 1 none).before a0 Z = true)
    (hd : decode bytes pc = .ok (.invokespecial i, 3)) (hp : pc + 3 = pc') (hsz : Ls.size = ml) (hf : 1 ≤ R.frames) (hW : (S.map fun v => v.category).sum = W) (hl : W + 12 ≤ R.locals)
    (g : Go p l e R s m args below meth c Y n0 G h k n (mkF m pc' Ls S)) : Go p l e R s m args below meth c Y n0 G h k n (mkF m pc Ls (.ref a :: S)) := fun T ⟨locs, F, X, eT⟩ => by
  subst hp
  obtain ⟨T', X', e', st⟩ := initO X C.1 C.2.1 C.2.2.2.2.1 w1 w2 w3 eT (g := mkF m pc Ls (.ref a :: S)) rfl (hsz.trans C.2.2.2.1.symm) rfl (hb C.2.2.1 hd) hf (W := W) (by show 2 * 0 + _ ≤ _; rw [Nat.mul_zero, Nat.zero_add]; exact Nat.le_of_eq hW) hl
  exact step st (g T' ⟨_, F, X', e'⟩)

/-! fields and objects -/
theorem getfield (C : Cx p s m meth c Z n0 own bytes ml ret) {i : Nat} {R0 O f d : String} {a : Addr} {v : Value} (w : (Cond.fieldLink own i R0 f d).before a0 Z = true) (via : Via Z R0 O f d) (F : Fld Z h a O f d v) (hd : decode bytes pc = .ok (.getfield i, 3)) (hp : pc + 3 = pc')
    (g : Go p l e R s m args below meth c Y n0 G h k n (mkF m pc' Ls (v :: S))) : Go p l e R s m args below meth c Y n0 G h k n (mkF m pc Ls (.ref a :: S)) := fun T ⟨locs, Fz, X, eT⟩ => by
  subst hp
  obtain ⟨T', X', e', st⟩ := getF X C.1 C.2.1 C.2.2.2.2.1 (host := "") (Or.inl w) via eT F (g := mkF m pc Ls (.ref a :: S)) rfl rfl (hb C.2.2.1 hd)
  exact step st (g T' ⟨_, Fz, X', e'⟩)
theorem getstatic (C : Cx p s m meth c Z n0 own bytes ml ret) {i : Nat} {R0 O f d : String} {v : Value} (w : (Cond.fieldLink own i R0 f d).before a0 Z = true) (via : Via Z R0 O f d) (F : Sta Z h O f d v) (hd : decode bytes pc = .ok (.getstatic i, 3)) (hp : pc + 3 = pc')
    (g : Go p l e R s m args below meth c Y n0 G h k n (mkF m pc' Ls (v :: S))) : Go p l e R s m args below meth c Y n0 G h k n (mkF m pc Ls S) := fun T ⟨locs, Fz, X, eT⟩ => by
  subst hp
  obtain ⟨T', X', e', st⟩ := getS2 X C.1 C.2.1 C.2.2.2.2.1 (host := "") (Or.inl w) via eT F (g := mkF m pc Ls S) rfl (hb C.2.2.1 hd)
  exact step st (g T' ⟨_, Fz, X', e'⟩)
theorem putfield (C : Cx p s m meth c Z n0 own bytes ml ret) {i kk : Nat} {R0 O f d Cn : String} {ty : FieldType} {a : Addr} {v old : Value} (w : (Cond.fieldLink own i R0 f d).before a0 Z = true) (via : Via Z R0 O f d) (F : Fld Z h a O f d old) (E : Exa Z h a Cn)
    (L : (Cond.lays Cn O f d).before a0 Z = true ∨ ((Cond.laysFinal Cn O f d).before a0 Z = true ∧ own = O ∧ meth.name = "<init>")) (wi : (Cond.instantiable Cn kk).before a0 Z = true) (hty : parseFieldDescriptor d = some ty) (hnr : narrow ty v = v) (hft : fits ty v = true) (hd : decode bytes pc = .ok (.putfield i, 3)) (hp : pc + 3 = pc') (ha : n0 ≤ a)
    (g : ∀ h', Wr h h' a (Jvm.RoadKit.slotOf Z O f d) v → Go p l e R s m args below meth c Y n0 G h' k n (mkF m pc' Ls S)) : Go p l e R s m args below meth c Y n0 G h k n (mkF m pc Ls (v :: .ref a :: S)) := fun T ⟨locs, Fz, X, eT⟩ => by
  subst hp
  obtain ⟨T', h', X', e', W, st⟩ := putF X C.1 C.2.1 C.2.2.2.2.1 (host := "") (Or.inl w) via eT F E L wi hty hnr hft (g := mkF m pc Ls (v :: .ref a :: S)) rfl rfl (hb C.2.2.1 hd)
  exact step st (g h' W T' ⟨_, Fr.snoc X' Fz ha, X', e'⟩)
theorem new (C : Cx p s m meth c Z n0 own bytes ml ret) {i sz : Nat} {Cn : String} (w : (Cond.classLink own i Cn).before a0 Z = true) (wi : (Cond.instantiable Cn sz).before a0 Z = true) (wz : (Cond.initialized Cn).before a0 Z = true) (hd : decode bytes pc = .ok (.new i, 3)) (hp : pc + 3 = pc') (hc : k + 1 ≤ R.cells) (hs : n + sz ≤ R.slots) {k' n' : Nat} (hk' : k + 1 = k') (hn' : n + sz = n')
    (g : ∀ h' a, a = h.size → n0 ≤ a → Ext h h' → Exa Z h' a Cn → (∀ {O nm d : String} {ty : FieldType}, Laid Z a0 Cn O nm d → parseFieldDescriptor d = some ty → Fld Z h' a O nm d (defaultValue ty)) → Go p l e R s m args below meth c Y n0 G h' k' n' (mkF m pc' Ls (.ref a :: S))) :
    Go p l e R s m args below meth c Y n0 G h k n (mkF m pc Ls S) := fun T ⟨locs, Fz, X, eT⟩ => by
  subst hp hk' hn'
  obtain ⟨T', h', X', e', E, A, D, -, st⟩ := newO X C.1 C.2.1 C.2.2.2.2.1 w wi wz eT (g := mkF m pc Ls S) rfl (hb C.2.2.1 hd) hc hs
  exact step st (g h' _ rfl (hz C X eT) E A D T' ⟨_, Fz, X', e'⟩)
/-! arrays -/
theorem newarray (C : Cx p s m meth c Z n0 own bytes ml ret) {aty : ArrayType} {x : Int32} {cap : Nat} (w : (Cond.arrayClass (newarray.typeOf aty)).before a0 Z = true) (hd : decode bytes pc = .ok (.newarray aty, 2)) (hp : pc + 2 = pc') (hx : ¬ x < 0) (hcap : x.toNatClampNeg ≤ cap) (hbig : cap * 8 ≤ 536870912) (hc : k + 1 ≤ R.cells) (hs : n + cap ≤ R.slots) {k' n' : Nat} (hk' : k + 1 = k') (hn' : n + cap = n')
    (g : ∀ h' a kc, a = h.size → n0 ≤ a → Ext h h' → Arv Z h' a kc (newarray.typeOf aty) x [] (defaultValue (newarray.typeOf aty)) → Go p l e R s m args below meth c Y n0 G h' k' n' (mkF m pc' Ls (.ref a :: S))) :
    Go p l e R s m args below meth c Y n0 G h k n (mkF m pc Ls (.int x :: S)) := fun T ⟨locs, Fz, X, eT⟩ => by
  subst hp hk' hn'
  obtain ⟨T', h', kc, X', e', E, A, st⟩ := newP X C.1 C.2.1 w eT (g := mkF m pc Ls (.int x :: S)) rfl (hb C.2.2.1 hd) rfl hx hcap hbig hc hs
  exact step st (g h' _ kc rfl (hz C X eT) E (Arv.new A hx) T' ⟨_, Fz, X', e'⟩)
theorem arraylength (C : Cx p s m meth c Z n0 own bytes ml ret) {a : Addr} {kc : ClassId} {ty : FieldType} {z : Int32} {vs : List Value} {dv : Value} (A : Arv Z h a kc ty z vs dv) (hd : decode bytes pc = .ok (.arraylength, 1)) (hp : pc + 1 = pc')
    (g : Go p l e R s m args below meth c Y n0 G h k n (mkF m pc' Ls (.int z :: S))) : Go p l e R s m args below meth c Y n0 G h k n (mkF m pc Ls (.ref a :: S)) := by
  subst hp
  obtain ⟨cl, Ar, -, Sz, Nz, -, -⟩ := A
  refine stepG (fun T locs X eT t q => X.arraylength C.1 (by rw [eT]; exact Ar.1) (State.isArrayOf_alike C.2.1.alike Ar.2.1) (g := mkF m pc Ls (.ref a :: S)) rfl rfl (hb C.2.2.1 hd) t ?_) g
  rw [len_of Sz Nz]; exact q
theorem arv_at {a : Addr} {kc : ClassId} {ty : FieldType} {z : Int32} {vs : List Value} {dv : Value} (A : Arv Z h a kc ty z vs dv) {j : Int32} (h0 : 0 ≤ j.toInt) (h1 : j.toInt < z.toInt) {v : Value} (hv : vs.getD j.toInt.toNat dv = v) :
    ∃ cl, Arr Z h a cl ty ∧ ¬ (j < 0 ∨ cl.slots.size ≤ j.toNatClampNeg) ∧ cl.slots[j.toNatClampNeg]? = some v := by
  obtain ⟨cl, Ar, -, Sz, Nz, H, -⟩ := A
  have hj : ¬ j < 0 := fun q => by have := Int32.lt_iff_toInt_lt.mp q; simp at this; omega
  have hin := inb_of Sz (j := j) ⟨hj, Int32.lt_iff_toInt_lt.mpr h1⟩
  exact ⟨cl, Ar, hin, H.at hin hv⟩
theorem iaload (C : Cx p s m meth c Z n0 own bytes ml ret) {a : Addr} {kc : ClassId} {z j : Int32} {vs : List Value} {dv v : Value} (A : Arv Z h a kc .int z vs dv) (h0 : 0 ≤ j.toInt) (h1 : j.toInt < z.toInt) (hv : vs.getD j.toInt.toNat dv = v) (hd : decode bytes pc = .ok (.iaload, 1)) (hp : pc + 1 = pc')
    (g : Go p l e R s m args below meth c Y n0 G h k n (mkF m pc' Ls (v :: S))) : Go p l e R s m args below meth c Y n0 G h k n (mkF m pc Ls (.int j :: .ref a :: S)) := by
  subst hp
  obtain ⟨cl, Ar, hin, hat⟩ := arv_at A h0 h1 hv
  exact stepG (fun T locs X eT t q => X.iaload C.1 (by rw [eT]; exact Ar.1) (State.isArrayOf_alike C.2.1.alike Ar.2.1) Ar.2.2 hin hat (g := mkF m pc Ls (.int j :: .ref a :: S)) rfl rfl (hb C.2.2.1 hd) t q) g
theorem laload (C : Cx p s m meth c Z n0 own bytes ml ret) {a : Addr} {kc : ClassId} {z j : Int32} {vs : List Value} {dv v : Value} (A : Arv Z h a kc .long z vs dv) (h0 : 0 ≤ j.toInt) (h1 : j.toInt < z.toInt) (hv : vs.getD j.toInt.toNat dv = v) (hd : decode bytes pc = .ok (.laload, 1)) (hp : pc + 1 = pc')
    (g : Go p l e R s m args below meth c Y n0 G h k n (mkF m pc' Ls (v :: S))) : Go p l e R s m args below meth c Y n0 G h k n (mkF m pc Ls (.int j :: .ref a :: S)) := by
  subst hp
  obtain ⟨cl, Ar, hin, hat⟩ := arv_at A h0 h1 hv
  exact stepG (fun T locs X eT t q => X.laload C.1 (by rw [eT]; exact Ar.1) (State.isArrayOf_alike C.2.1.alike Ar.2.1) Ar.2.2 hin hat (g := mkF m pc Ls (.int j :: .ref a :: S)) rfl rfl (hb C.2.2.1 hd) t q) g
theorem caload (C : Cx p s m meth c Z n0 own bytes ml ret) {a : Addr} {kc : ClassId} {z j : Int32} {vs : List Value} {dv v : Value} (A : Arv Z h a kc .char z vs dv) (h0 : 0 ≤ j.toInt) (h1 : j.toInt < z.toInt) (hv : vs.getD j.toInt.toNat dv = v) (hd : decode bytes pc = .ok (.caload, 1)) (hp : pc + 1 = pc')
    (g : Go p l e R s m args below meth c Y n0 G h k n (mkF m pc' Ls (v :: S))) : Go p l e R s m args below meth c Y n0 G h k n (mkF m pc Ls (.int j :: .ref a :: S)) := by
  subst hp
  obtain ⟨cl, Ar, hin, hat⟩ := arv_at A h0 h1 hv
  exact stepG (fun T locs X eT t q => X.caload C.1 (by rw [eT]; exact Ar.1) (State.isArrayOf_alike C.2.1.alike Ar.2.1) Ar.2.2 hin hat (g := mkF m pc Ls (.int j :: .ref a :: S)) rfl rfl (hb C.2.2.1 hd) t q) g
theorem baload (C : Cx p s m meth c Z n0 own bytes ml ret) {a : Addr} {kc : ClassId} {z j : Int32} {vs : List Value} {dv v : Value} (A : Arv Z h a kc .byte z vs dv) (h0 : 0 ≤ j.toInt) (h1 : j.toInt < z.toInt) (hv : vs.getD j.toInt.toNat dv = v) (hd : decode bytes pc = .ok (.baload, 1)) (hp : pc + 1 = pc')
    (g : Go p l e R s m args below meth c Y n0 G h k n (mkF m pc' Ls (v :: S))) : Go p l e R s m args below meth c Y n0 G h k n (mkF m pc Ls (.int j :: .ref a :: S)) := by
  subst hp
  obtain ⟨cl, Ar, hin, hat⟩ := arv_at A h0 h1 hv
  exact stepG (fun T locs X eT t q => X.baloadBytes C.1 (by rw [eT]; exact Ar.1) (State.isArrayOf_alike C.2.1.alike Ar.2.1) Ar.2.2 hin hat (g := mkF m pc Ls (.int j :: .ref a :: S)) rfl rfl (hb C.2.2.1 hd) t q) g
theorem aaload (C : Cx p s m meth c Z n0 own bytes ml ret) {a : Addr} {cl : Cell} {ty : FieldType} {j : Int32} {v : Value} (A : Arr Z h a cl ty) (hty : ty.isReference = true) (hin : ¬ (j < 0 ∨ cl.slots.size ≤ j.toNatClampNeg)) (hat : cl.slots[j.toNatClampNeg]? = some v) (hd : decode bytes pc = .ok (.aaload, 1)) (hp : pc + 1 = pc')
    (g : Go p l e R s m args below meth c Y n0 G h k n (mkF m pc' Ls (v :: S))) : Go p l e R s m args below meth c Y n0 G h k n (mkF m pc Ls (.int j :: .ref a :: S)) := by
  subst hp
  exact stepG (fun T locs X eT t q => X.aaload C.1 (by rw [eT]; exact A.1) (State.isArrayOf_alike C.2.1.alike A.2.1) hty A.2.2 hin hat (g := mkF m pc Ls (.int j :: .ref a :: S)) rfl rfl (hb C.2.2.1 hd) t q) g
theorem instT (C : Cx p s m meth c Z n0 own bytes ml ret) {i : Nat} {Kn : String} {a : Addr} (w : (Cond.classLink own i Kn).before a0 Z = true) (I : Ins Z h a Kn true) (hd : decode bytes pc = .ok (.instanceof i, 3)) (hp : pc + 3 = pc')
    (g : Go p l e R s m args below meth c Y n0 G h k n (mkF m pc' Ls (.int 1 :: S))) : Go p l e R s m args below meth c Y n0 G h k n (mkF m pc Ls (.ref a :: S)) := fun T ⟨locs, Fz, X, eT⟩ => by
  subst hp
  obtain ⟨T', X', e', st⟩ := instY X C.1 C.2.1 C.2.2.2.2.1 w eT I (g := mkF m pc Ls (.ref a :: S)) rfl rfl (hb C.2.2.1 hd)
  exact step st (g T' ⟨_, Fz, X', e'⟩)
theorem instF (C : Cx p s m meth c Z n0 own bytes ml ret) {i : Nat} {Kn Cn : String} {a : Addr} (w : (Cond.classLink own i Kn).before a0 Z = true) (E : Exa Z h a Cn) (I : ∃ c t, Z.vm.findClass Cn = some c ∧ Z.vm.findClass Kn = some t ∧ Z.vm.assignable c t = false) (hd : decode bytes pc = .ok (.instanceof i, 3)) (hp : pc + 3 = pc')
    (g : Go p l e R s m args below meth c Y n0 G h k n (mkF m pc' Ls (.int 0 :: S))) : Go p l e R s m args below meth c Y n0 G h k n (mkF m pc Ls (.ref a :: S)) := fun T ⟨locs, Fz, X, eT⟩ => by
  subst hp
  obtain ⟨T', X', e', st⟩ := instNo X C.1 C.2.1 C.2.2.2.2.1 w eT E I (g := mkF m pc Ls (.ref a :: S)) rfl rfl (hb C.2.2.1 hd)
  exact step st (g T' ⟨_, Fz, X', e'⟩)
theorem instN (C : Cx p s m meth c Z n0 own bytes ml ret) {i : Nat} (hd : decode bytes pc = .ok (.instanceof i, 3)) (hp : pc + 3 = pc')
    (g : Go p l e R s m args below meth c Y n0 G h k n (mkF m pc' Ls (.int 0 :: S))) : Go p l e R s m args below meth c Y n0 G h k n (mkF m pc Ls (.null :: S)) := by
  subst hp; exact stepG (fun T locs X eT t q => X.instanceofNull C.1 (g := mkF m pc Ls (.null :: S)) rfl rfl (hb C.2.2.1 hd) t q) g
theorem castT (C : Cx p s m meth c Z n0 own bytes ml ret) {i : Nat} {Kn : String} {a : Addr} (w : (Cond.classLink own i Kn).before a0 Z = true) (I : Ins Z h a Kn true) (hd : decode bytes pc = .ok (.checkcast i, 3)) (hp : pc + 3 = pc')
    (g : Go p l e R s m args below meth c Y n0 G h k n (mkF m pc' Ls (.ref a :: S))) : Go p l e R s m args below meth c Y n0 G h k n (mkF m pc Ls (.ref a :: S)) := fun T ⟨locs, Fz, X, eT⟩ => by
  subst hp
  obtain ⟨T', X', e', st⟩ := castY X C.1 C.2.1 C.2.2.2.2.1 w eT I (g := mkF m pc Ls (.ref a :: S)) rfl rfl (hb C.2.2.1 hd)
  exact step st (g T' ⟨_, Fz, X', e'⟩)
theorem ns_root {O Kn : String} {q : Nat} (w : (Cond.noSuperclass O).before a0 Z = true) (wk : (Cond.instantiable Kn q).before a0 Z = true) (hn : O ≠ Kn) : NS Z O Kn := by
  obtain ⟨c, k, h1, h2, h3, -, -⟩ := Cond.noSuperclass_spec w
  obtain ⟨t, kt, g1, -⟩ := Cond.instantiable_spec wk
  have ne := ids_ne h1 g1 hn
  refine ⟨c, t, h1, g1, fun fuel => ?_⟩
  cases fuel with
  | zero => rfl
  | succ f => simp [Vm.isSubclassAux, ne, h2, h3]
theorem ns_no {Cn Sn Kn : String} {q : Nat} (w : (Cond.superclass Cn Sn).before a0 Z = true) (wk : (Cond.instantiable Kn q).before a0 Z = true) (n : NS Z Cn Kn) (hn : Cn ≠ Kn) : ∃ c t, Z.vm.findClass Cn = some c ∧ Z.vm.findClass Kn = some t ∧ Z.vm.assignable c t = false := by
  obtain ⟨c, t, h0, g0, n3⟩ := n
  obtain ⟨p, k, kp, h1, h2, h3, h4, h5, -, h7⟩ := Cond.superclass_spec h0 w
  obtain ⟨t', k', g1, g2, g5, g7, -⟩ := Cond.instantiable_spec wk
  cases g0.symm.trans g1
  have ne := ids_ne h0 g0 hn
  have g8 : k'.isInterface = false := by simp only [Bool.or_eq_false_iff] at g7; exact g7.1
  refine ⟨c, t, h0, g0, ?_⟩
  show Z.vm.assignableAux (255 + 1) c t = false
  simp [Vm.assignableAux, ne, h2, g2, h5, g5, g8, Vm.isSubclass, n3]
theorem iastore (C : Cx p s m meth c Z n0 own bytes ml ret) {a : Addr} {kc : ClassId} {z j : Int32} {x : Int32} {vs : List Value} {dv : Value} (A : Arv Z h a kc .int z vs dv) (h0 : 0 ≤ j.toInt) (h1 : j.toInt < z.toInt) (hlen : j.toInt.toNat < vs.length) (ha : n0 ≤ a) (hd : decode bytes pc = .ok (.iastore, 1)) (hp : pc + 1 = pc')
    (g : ∀ h', Wr h h' a j.toNatClampNeg (.int x) → Arv Z h' a kc .int z (vs.set j.toInt.toNat (.int x)) dv → Go p l e R s m args below meth c Y n0 G h' k n (mkF m pc' Ls S)) : Go p l e R s m args below meth c Y n0 G h k n (mkF m pc Ls (.int x :: .int j :: .ref a :: S)) := fun T ⟨locs, Fz, X, eT⟩ => by
  subst hp
  obtain ⟨cl, Ar, q1, Sz, Nz, H, Gf⟩ := A
  have hj : ¬ j < 0 := fun q => by have := Int32.lt_iff_toInt_lt.mp q; simp at this; omega
  have hin := inb_of Sz (j := j) ⟨hj, Int32.lt_iff_toInt_lt.mpr h1⟩
  obtain ⟨T', h', X', e', W, st⟩ := stI X C.1 C.2.1 eT Ar hin (g := mkF m pc Ls (.int x :: .int j :: .ref a :: S)) rfl rfl (hb C.2.2.1 hd)
  exact step st (g h' W (Arv.set Ar q1 Sz Nz H Gf rfl W _ rfl hlen) T' ⟨_, Fr.snoc X' Fz ha, X', e'⟩)
theorem lastore (C : Cx p s m meth c Z n0 own bytes ml ret) {a : Addr} {kc : ClassId} {z j : Int32} {x : Int64} {vs : List Value} {dv : Value} (A : Arv Z h a kc .long z vs dv) (h0 : 0 ≤ j.toInt) (h1 : j.toInt < z.toInt) (hlen : j.toInt.toNat < vs.length) (ha : n0 ≤ a) (hd : decode bytes pc = .ok (.lastore, 1)) (hp : pc + 1 = pc')
    (g : ∀ h', Wr h h' a j.toNatClampNeg (.long x) → Arv Z h' a kc .long z (vs.set j.toInt.toNat (.long x)) dv → Go p l e R s m args below meth c Y n0 G h' k n (mkF m pc' Ls S)) : Go p l e R s m args below meth c Y n0 G h k n (mkF m pc Ls (.long x :: .int j :: .ref a :: S)) := fun T ⟨locs, Fz, X, eT⟩ => by
  subst hp
  obtain ⟨cl, Ar, q1, Sz, Nz, H, Gf⟩ := A
  have hj : ¬ j < 0 := fun q => by have := Int32.lt_iff_toInt_lt.mp q; simp at this; omega
  have hin := inb_of Sz (j := j) ⟨hj, Int32.lt_iff_toInt_lt.mpr h1⟩
  obtain ⟨T', h', X', e', W, st⟩ := stJ X C.1 C.2.1 eT Ar hin (g := mkF m pc Ls (.long x :: .int j :: .ref a :: S)) rfl rfl (hb C.2.2.1 hd)
  exact step st (g h' W (Arv.set Ar q1 Sz Nz H Gf rfl W _ rfl hlen) T' ⟨_, Fr.snoc X' Fz ha, X', e'⟩)
theorem castore (C : Cx p s m meth c Z n0 own bytes ml ret) {a : Addr} {kc : ClassId} {z j : Int32} {x : Int32} {vs : List Value} {dv : Value} (A : Arv Z h a kc .char z vs dv) (h0 : 0 ≤ j.toInt) (h1 : j.toInt < z.toInt) (hlen : j.toInt.toNat < vs.length) (ha : n0 ≤ a) (hd : decode bytes pc = .ok (.castore, 1)) (hp : pc + 1 = pc')
    (g : ∀ h', Wr h h' a j.toNatClampNeg (.int (nar .char x)) → Arv Z h' a kc .char z (vs.set j.toInt.toNat (.int (nar .char x))) dv → Go p l e R s m args below meth c Y n0 G h' k n (mkF m pc' Ls S)) : Go p l e R s m args below meth c Y n0 G h k n (mkF m pc Ls (.int x :: .int j :: .ref a :: S)) := fun T ⟨locs, Fz, X, eT⟩ => by
  subst hp
  obtain ⟨cl, Ar, q1, Sz, Nz, H, Gf⟩ := A
  have hj : ¬ j < 0 := fun q => by have := Int32.lt_iff_toInt_lt.mp q; simp at this; omega
  have hin := inb_of Sz (j := j) ⟨hj, Int32.lt_iff_toInt_lt.mpr h1⟩
  obtain ⟨T', h', X', e', W, st⟩ := stC X C.1 C.2.1 eT Ar hin (g := mkF m pc Ls (.int x :: .int j :: .ref a :: S)) rfl rfl (hb C.2.2.1 hd)
  exact step st (g h' W (Arv.set Ar q1 Sz Nz H Gf (fits_nar_char _) W _ rfl hlen) T' ⟨_, Fr.snoc X' Fz ha, X', e'⟩)
theorem bastore (C : Cx p s m meth c Z n0 own bytes ml ret) {a : Addr} {kc : ClassId} {z j : Int32} {x : Int32} {vs : List Value} {dv : Value} (A : Arv Z h a kc .byte z vs dv) (h0 : 0 ≤ j.toInt) (h1 : j.toInt < z.toInt) (hlen : j.toInt.toNat < vs.length) (ha : n0 ≤ a) (hd : decode bytes pc = .ok (.bastore, 1)) (hp : pc + 1 = pc')
    (g : ∀ h', Wr h h' a j.toNatClampNeg (.int (nar .byte x)) → Arv Z h' a kc .byte z (vs.set j.toInt.toNat (.int (nar .byte x))) dv → Go p l e R s m args below meth c Y n0 G h' k n (mkF m pc' Ls S)) : Go p l e R s m args below meth c Y n0 G h k n (mkF m pc Ls (.int x :: .int j :: .ref a :: S)) := fun T ⟨locs, Fz, X, eT⟩ => by
  subst hp
  obtain ⟨cl, Ar, q1, Sz, Nz, H, Gf⟩ := A
  have hj : ¬ j < 0 := fun q => by have := Int32.lt_iff_toInt_lt.mp q; simp at this; omega
  have hin := inb_of Sz (j := j) ⟨hj, Int32.lt_iff_toInt_lt.mpr h1⟩
  obtain ⟨T', h', X', e', W, st⟩ := stB X C.1 C.2.1 eT Ar hin (g := mkF m pc Ls (.int x :: .int j :: .ref a :: S)) rfl rfl (hb C.2.2.1 hd)
  exact step st (g h' W (Arv.set Ar q1 Sz Nz H Gf (fits_nar_byte _) W _ rfl hlen) T' ⟨_, Fr.snoc X' Fz ha, X', e'⟩)
end Walk
end Jvm.Pilot.@@N@@.W
namespace Jvm.Pilot.@@N@@
open Jvm Jvm.ClassFile Sem Op Lib Jvm.Free Jvm.Stand Jvm.LawKit Jvm.RoadKit Bundle Jvm.Pilot.@@N@@.Jvm.D
theorem ef_1 (m : MethodId) (p0 : Int32) (p1 : Int32) (p2 : Int32) (p3 : Int32) (p4 : Int32) (p5 : Int32) (p6 : Int32) : entryFrame m #[(.int p0), (.int p1), (.int p2), (.int p3), (.int p4), (.int p5), (.int p6)] 8 = mkF m 0 #[.val (.int p0), .val (.int p1), .val (.int p2), .val (.int p3), .val (.int p4), .val (.int p5), .val (.int p6), .unset] [] := by first | (simp [entryFrame, mkF, argsToLocals, Value.category]; done) | rfl
theorem pn_0 : plainName "com/example/borderline/borderline/TriePathsParentsPinLaw" = true := by first | (simp [plainName, overriddenIn]; done) | decide +kernel
theorem d1_71 : decode method_3_code 71 = .ok (.iload 7, 2) := by decide +kernel
theorem d1_73 : decode method_3_code 73 = .ok (.ireturn, 1) := by decide +kernel
theorem d1_57 : decode method_3_code 57 = .ok (.iload_n 1, 1) := by decide +kernel
theorem d1_58 : decode method_3_code 58 = .ok (.iconst 5, 1) := by decide +kernel
theorem d1_59 : decode method_3_code 59 = .ok (.if_icmp .le 12, 3) := by decide +kernel
theorem d1_62 : decode method_3_code 62 = .ok (.iload 6, 2) := by decide +kernel
theorem d1_64 : decode method_3_code 64 = .ok (.iload_n 0, 1) := by decide +kernel
theorem d1_65 : decode method_3_code 65 = .ok (.if_icmp .ge 6, 3) := by decide +kernel
theorem d1_68 : decode method_3_code 68 = .ok (.iinc 7 1, 3) := by decide +kernel
theorem d1_43 : decode method_3_code 43 = .ok (.iload_n 1, 1) := by decide +kernel
theorem d1_44 : decode method_3_code 44 = .ok (.iconst 4, 1) := by decide +kernel
theorem d1_45 : decode method_3_code 45 = .ok (.if_icmp .le 12, 3) := by decide +kernel
theorem d1_48 : decode method_3_code 48 = .ok (.iload 5, 2) := by decide +kernel
theorem d1_50 : decode method_3_code 50 = .ok (.iload_n 0, 1) := by decide +kernel
theorem d1_51 : decode method_3_code 51 = .ok (.if_icmp .ge 6, 3) := by decide +kernel
theorem d1_54 : decode method_3_code 54 = .ok (.iinc 7 1, 3) := by decide +kernel
theorem d1_29 : decode method_3_code 29 = .ok (.iload_n 1, 1) := by decide +kernel
theorem d1_30 : decode method_3_code 30 = .ok (.iconst 3, 1) := by decide +kernel
theorem d1_31 : decode method_3_code 31 = .ok (.if_icmp .le 12, 3) := by decide +kernel
theorem d1_34 : decode method_3_code 34 = .ok (.iload 4, 2) := by decide +kernel
theorem d1_36 : decode method_3_code 36 = .ok (.iload_n 0, 1) := by decide +kernel
theorem d1_37 : decode method_3_code 37 = .ok (.if_icmp .ge 6, 3) := by decide +kernel
theorem d1_40 : decode method_3_code 40 = .ok (.iinc 7 1, 3) := by decide +kernel
theorem d1_16 : decode method_3_code 16 = .ok (.iload_n 1, 1) := by decide +kernel
theorem d1_17 : decode method_3_code 17 = .ok (.iconst 2, 1) := by decide +kernel
theorem d1_18 : decode method_3_code 18 = .ok (.if_icmp .le 11, 3) := by decide +kernel
theorem d1_21 : decode method_3_code 21 = .ok (.iload_n 3, 1) := by decide +kernel
theorem d1_22 : decode method_3_code 22 = .ok (.iload_n 0, 1) := by decide +kernel
theorem d1_23 : decode method_3_code 23 = .ok (.if_icmp .ge 6, 3) := by decide +kernel
theorem d1_26 : decode method_3_code 26 = .ok (.iinc 7 1, 3) := by decide +kernel
theorem d1_0 : decode method_3_code 0 = .ok (.iconst 1, 1) := by decide +kernel
theorem d1_1 : decode method_3_code 1 = .ok (.istore 7, 2) := by decide +kernel
theorem d1_3 : decode method_3_code 3 = .ok (.iload_n 1, 1) := by decide +kernel
theorem d1_4 : decode method_3_code 4 = .ok (.iconst 1, 1) := by decide +kernel
theorem d1_5 : decode method_3_code 5 = .ok (.if_icmp .le 11, 3) := by decide +kernel
theorem d1_8 : decode method_3_code 8 = .ok (.iload_n 2, 1) := by decide +kernel
theorem d1_9 : decode method_3_code 9 = .ok (.iload_n 0, 1) := by decide +kernel
theorem d1_10 : decode method_3_code 10 = .ok (.if_icmp .ge 6, 3) := by decide +kernel
theorem d1_13 : decode method_3_code 13 = .ok (.iinc 7 1, 3) := by decide +kernel
theorem ef_2 (m : MethodId) (o0 : Addr) (p1 : Int32) : entryFrame m #[(.ref o0), (.int p1)] 5 = mkF m 0 #[.val (.ref o0), .val (.int p1), .unset, .unset, .unset] [] := by first | (simp [entryFrame, mkF, argsToLocals, Value.category]; done) | rfl
theorem pn_1 : plainName "com/example/borderline/borderline/TriePaths" = true := by first | (simp [plainName, overriddenIn]; done) | decide +kernel
theorem d2_0 : decode prog_22_method_2_code 0 = .ok (.iload_n 1, 1) := by decide +kernel
theorem d2_1 : decode prog_22_method_2_code 1 = .ok (.newarray .int, 2) := by decide +kernel
theorem d2_10 : decode prog_22_method_2_code 10 = .ok (.iload_n 3, 1) := by decide +kernel
theorem d2_11 : decode prog_22_method_2_code 11 = .ok (.iload_n 1, 1) := by decide +kernel
theorem d2_12 : decode prog_22_method_2_code 12 = .ok (.if_icmp .ge 35, 3) := by decide +kernel
theorem d2_47 : decode prog_22_method_2_code 47 = .ok (.aload_n 2, 1) := by decide +kernel
theorem d2_48 : decode prog_22_method_2_code 48 = .ok (.areturn, 1) := by decide +kernel
theorem d2_20 : decode prog_22_method_2_code 20 = .ok (.iload 4, 2) := by decide +kernel
theorem d2_22 : decode prog_22_method_2_code 22 = .ok (.aload_n 0, 1) := by decide +kernel
theorem d2_23 : decode prog_22_method_2_code 23 = .ok (.iload_n 3, 1) := by decide +kernel
theorem d2_24 : decode prog_22_method_2_code 24 = .ok (.iconst 1, 1) := by decide +kernel
theorem d2_25 : decode prog_22_method_2_code 25 = .ok (.iadd, 1) := by decide +kernel
theorem d2_26 : decode prog_22_method_2_code 26 = .ok (.iaload, 1) := by decide +kernel
theorem d2_27 : decode prog_22_method_2_code 27 = .ok (.if_icmp .ge 14, 3) := by decide +kernel
theorem d2_41 : decode prog_22_method_2_code 41 = .ok (.iinc 3 1, 3) := by decide +kernel
theorem d2_44 : decode prog_22_method_2_code 44 = .ok (.goto (-34), 3) := by decide +kernel
theorem d2_30 : decode prog_22_method_2_code 30 = .ok (.aload_n 2, 1) := by decide +kernel
theorem d2_31 : decode prog_22_method_2_code 31 = .ok (.iload 4, 2) := by decide +kernel
theorem d2_33 : decode prog_22_method_2_code 33 = .ok (.iload_n 3, 1) := by decide +kernel
theorem d2_34 : decode prog_22_method_2_code 34 = .ok (.iastore, 1) := by decide +kernel
theorem d2_35 : decode prog_22_method_2_code 35 = .ok (.iinc 4 1, 3) := by decide +kernel
theorem d2_38 : decode prog_22_method_2_code 38 = .ok (.goto (-18), 3) := by decide +kernel
theorem d2_15 : decode prog_22_method_2_code 15 = .ok (.aload_n 0, 1) := by decide +kernel
theorem d2_16 : decode prog_22_method_2_code 16 = .ok (.iload_n 3, 1) := by decide +kernel
theorem d2_17 : decode prog_22_method_2_code 17 = .ok (.iaload, 1) := by decide +kernel
theorem d2_18 : decode prog_22_method_2_code 18 = .ok (.istore 4, 2) := by decide +kernel
theorem d2_3 : decode prog_22_method_2_code 3 = .ok (.astore_n 2, 1) := by decide +kernel
theorem d2_4 : decode prog_22_method_2_code 4 = .ok (.aload_n 2, 1) := by decide +kernel
theorem d2_5 : decode prog_22_method_2_code 5 = .ok (.iconst 0, 1) := by decide +kernel
theorem d2_6 : decode prog_22_method_2_code 6 = .ok (.iconst (-1), 1) := by decide +kernel
theorem d2_7 : decode prog_22_method_2_code 7 = .ok (.iastore, 1) := by decide +kernel
theorem d2_8 : decode prog_22_method_2_code 8 = .ok (.iconst 0, 1) := by decide +kernel
theorem d2_9 : decode prog_22_method_2_code 9 = .ok (.istore_n 3, 1) := by decide +kernel
theorem ef_0 (m : MethodId) (p0 : Int32) (p1 : Int32) : entryFrame m #[(.int p0), (.int p1)] maxLocals = mkF m 0 #[.val (.int p0), .val (.int p1), .unset, .unset, .unset, .unset, .unset, .unset, .unset, .unset] [] := by first | (simp [entryFrame, mkF, argsToLocals, Value.category, maxLocals]; done) | rfl
theorem pd_0 : parseMethodDescriptor "(IIIIIII)I" = some ⟨[.int, .int, .int, .int, .int, .int, .int], some .int⟩ := by decide +kernel
theorem pd_1 : parseMethodDescriptor "([II)[I" = some ⟨[(.array .int), .int], some (.array .int)⟩ := by decide +kernel
def own_b (n j p s : Int) : Int := if j < n ∧ p < s then 1 else 0
def own_F (n p1 p2 p3 p4 p5 s : Int) : Int := 1 + own_b n 1 p1 s + own_b n 2 p2 s + own_b n 3 p3 s + own_b n 4 p4 s + own_b n 5 p5 s
theorem own_bs (n j p s : Int) : (own_b n j p s = 1 ∧ j < n ∧ p < s) ∨ (own_b n j p s = 0 ∧ ¬ (j < n ∧ p < s)) := by
  unfold own_b; split
  · rename_i h; exact Or.inl ⟨rfl, h⟩
  · rename_i h; exact Or.inr ⟨rfl, h⟩
def own_P (p1 p2 p3 p4 p5 c : Int) : Int := if c = 1 then p1 else if c = 2 then p2 else if c = 3 then p3 else if c = 4 then p4 else p5
def own_vs (P : Int → Int) (n : Nat) (c : Int) : List Value := (List.range n).map fun (j : Nat) => Value.int (if j = 0 then -1 else if (j : Int) < c then Int32.ofInt (P j) else 0)
theorem own_vl (P : Int → Int) (n : Nat) (c : Int) : (own_vs P n c).length = n := by simp [own_vs]
theorem own_vget (P : Int → Int) (n : Nat) (c : Int) (j : Nat) (hj : j < n) (d : Value) : (own_vs P n c).getD j d = Value.int (if j = 0 then -1 else if (j : Int) < c then Int32.ofInt (P j) else 0) := by
  simp [own_vs, List.getD, hj]
theorem own_vext {a b : List Value} (hl : a.length = b.length) (h : ∀ j, j < a.length → a.getD j .null = b.getD j .null) : a = b := by
  apply List.ext_getElem hl
  intro j h1 h2
  have := h j h1
  simpa [List.getD, h1, h2] using this
theorem own_vset (P : Int → Int) (n : Nat) (c s : Int32) (h0 : 1 ≤ c.toInt) (hn : c.toInt < n) (hP : P c.toInt = s.toInt) : (own_vs P n c.toInt).set c.toInt.toNat (.int s) = own_vs P n (c.toInt + 1) := by
  apply own_vext
  · simp [own_vl]
  · intro j hj
    have hj' : j < n := by simpa [own_vl] using hj
    rw [own_vget P n _ j hj']
    by_cases e : c.toInt.toNat = j
    · subst e
      have e2 : ((c.toInt.toNat : Nat) : Int) = c.toInt := Int.toNat_of_nonneg (by omega)
      have z : ¬ c.toInt.toNat = 0 := by omega
      simp only [List.getD, List.length_set, own_vl, hj', List.getElem?_set_self, Option.getD_some]
      rw [if_neg z, e2, if_pos (by omega), hP, Int32.ofInt_toInt]
    · have : ((own_vs P n c.toInt).set c.toInt.toNat (.int s)).getD j .null = (own_vs P n c.toInt).getD j .null := by
        show (((own_vs P n c.toInt).set c.toInt.toNat (.int s))[j]?).getD Value.null = ((own_vs P n c.toInt)[j]?).getD Value.null
        rw [List.getElem?_set_ne e]
      rw [this, own_vget P n _ j hj']
      by_cases z : j = 0
      · simp [z]
      · rw [if_neg z, if_neg z]
        by_cases q : (j : Int) < c.toInt
        · rw [if_pos q, if_pos (by omega)]
        · rw [if_neg q, if_neg (by omega)]
theorem own_v1 (P : Int → Int) (n : Nat) (hn : 1 ≤ n) : (List.replicate n (Value.int 0)).set 0 (.int (-1)) = own_vs P n 1 := by
  apply own_vext
  · simp [own_vl]
  · intro j hj
    have hj' : j < n := by simpa using hj
    rw [own_vget P n _ j hj']
    by_cases z : j = 0
    · subst z; simp [List.getD, hj']
    · have : ((List.replicate n (Value.int 0)).set 0 (.int (-1))).getD j .null = .int 0 := by
        show (((List.replicate n (Value.int 0)).set 0 (.int (-1)))[j]?).getD Value.null = _
        rw [List.getElem?_set_ne (fun q => z q.symm)]
        simp [hj']
      rw [this, if_neg z, if_neg (by omega)]
theorem own_lF (n x2 x3 x4 x5 : Int) (h1 : 1 ≤ n) (h6 : n ≤ 6) (a2 : 0 ≤ x2 ∧ x2 ≤ 1) (a3 : x2 ≤ x3 ∧ x3 ≤ 2) (a4 : x3 ≤ x4 ∧ x4 ≤ 3) (a5 : x4 ≤ x5 ∧ x5 ≤ 4) :
    own_F n 0 x2 x3 x4 x5 0 = 1 ∧ (∀ s, 0 ≤ s → s < n → 1 ≤ own_F n 0 x2 x3 x4 x5 s ∧ own_F n 0 x2 x3 x4 x5 s ≤ own_F n 0 x2 x3 x4 x5 (s + 1) ∧ own_F n 0 x2 x3 x4 x5 (s + 1) ≤ n) ∧ own_F n 0 x2 x3 x4 x5 n = n ∧
    (∀ s c, 0 ≤ s → s < n → own_F n 0 x2 x3 x4 x5 s ≤ c → c < own_F n 0 x2 x3 x4 x5 (s + 1) → own_P 0 x2 x3 x4 x5 c = s) := by
  have up : ∀ s, own_F n 0 x2 x3 x4 x5 s ≤ n := fun s => by
    have b1 := own_bs n 1 0 s; have b2 := own_bs n 2 x2 s; have b3 := own_bs n 3 x3 s; have b4 := own_bs n 4 x4 s; have b5 := own_bs n 5 x5 s
    unfold own_F; omega
  have lo : ∀ s, 1 ≤ own_F n 0 x2 x3 x4 x5 s := fun s => by
    have b1 := own_bs n 1 0 s; have b2 := own_bs n 2 x2 s; have b3 := own_bs n 3 x3 s; have b4 := own_bs n 4 x4 s; have b5 := own_bs n 5 x5 s
    unfold own_F; omega
  have m1 : ∀ j p s, own_b n j p s ≤ own_b n j p (s + 1) := fun j p s => by have := own_bs n j p s; have := own_bs n j p (s + 1); omega
  refine ⟨?_, ?_, ?_, ?_⟩
  · have b1 := own_bs n 1 0 0; have b2 := own_bs n 2 x2 0; have b3 := own_bs n 3 x3 0; have b4 := own_bs n 4 x4 0; have b5 := own_bs n 5 x5 0
    unfold own_F; omega
  · intro s _ _
    refine ⟨lo s, ?_, up _⟩
    have q1 := m1 1 0 s; have q2 := m1 2 x2 s; have q3 := m1 3 x3 s; have q4 := m1 4 x4 s; have q5 := m1 5 x5 s
    unfold own_F; omega
  · have b1 := own_bs n 1 0 n; have b2 := own_bs n 2 x2 n; have b3 := own_bs n 3 x3 n; have b4 := own_bs n 4 x4 n; have b5 := own_bs n 5 x5 n
    unfold own_F; omega
  · intro s c hs hn q1 q2
    have c1 := lo s
    have c2 := up (s + 1)
    have hc : c = 1 ∨ c = 2 ∨ c = 3 ∨ c = 4 ∨ c = 5 := by omega
    unfold own_F at q1 q2
    have b1 := own_bs n 1 0 s; have b2 := own_bs n 2 x2 s; have b3 := own_bs n 3 x3 s; have b4 := own_bs n 4 x4 s; have b5 := own_bs n 5 x5 s
    have d1 := own_bs n 1 0 (s + 1); have d2 := own_bs n 2 x2 (s + 1); have d3 := own_bs n 3 x3 (s + 1); have d4 := own_bs n 4 x4 (s + 1); have d5 := own_bs n 5 x5 (s + 1)
    rcases hc with rfl | rfl | rfl | rfl | rfl
    · show (0 : Int) = s; omega
    · show x2 = s; omega
    · show x3 = s; omega
    · show x4 = s; omega
    · show x5 = s; omega
theorem own_seven {P : Int32 → Prop} (h : ∀ k : Fin 7, P (Int32.ofInt (k.1 : Int))) (x : Int32) (h1 : 0 ≤ x.toInt) (h2 : x.toInt < 7) : P x := by
  have hk : x.toInt.toNat < 7 := by omega
  have e : Int32.ofInt (((⟨x.toInt.toNat, hk⟩ : Fin 7).1 : Nat) : Int) = x := by
    rw [show (((⟨x.toInt.toNat, hk⟩ : Fin 7).1 : Nat) : Int) = x.toInt from Int.toNat_of_nonneg h1]; exact Int32.ofInt_toInt x
  exact e ▸ h ⟨x.toInt.toNat, hk⟩
theorem own_hg (F : Int → Int) (w0 w1 w2 w3 w4 w5 w6 : Int32) (e0 : w0.toInt = F 0) (e1 : w1.toInt = F 1) (e2 : w2.toInt = F 2) (e3 : w3.toInt = F 3) (e4 : w4.toInt = F 4) (e5 : w5.toInt = F 5) (e6 : w6.toInt = F 6) (j : Int32) (h1 : 0 ≤ j.toInt) (h2 : j.toInt < 7) :
    ∃ w : Int32, ([.int w0, .int w1, .int w2, .int w3, .int w4, .int w5, .int w6] : List Value).getD j.toInt.toNat (.int 0) = .int w ∧ w.toInt = F j.toInt :=
  own_seven (P := fun j => ∃ w : Int32, ([.int w0, .int w1, .int w2, .int w3, .int w4, .int w5, .int w6] : List Value).getD j.toInt.toNat (.int 0) = .int w ∧ w.toInt = F j.toInt) (fun k => by
    match k with
    | ⟨0, _⟩ => exact ⟨_, rfl, e0⟩
    | ⟨1, _⟩ => exact ⟨_, rfl, e1⟩
    | ⟨2, _⟩ => exact ⟨_, rfl, e2⟩
    | ⟨3, _⟩ => exact ⟨_, rfl, e3⟩
    | ⟨4, _⟩ => exact ⟨_, rfl, e4⟩
    | ⟨5, _⟩ => exact ⟨_, rfl, e5⟩
    | ⟨6, _⟩ => exact ⟨_, rfl, e6⟩) j h1 h2
theorem own_stp (x y q : Int32) (d : Int) (hy : y.toInt = d) (h0 : 0 < d) (hd : d ≤ 8) (hq : 0 ≤ q.toInt) (hx : 0 ≤ x.toInt ∧ x.toInt ≤ 8) : x.toInt ≤ (x + q % y).toInt ∧ (x + q % y).toInt ≤ x.toInt + d - 1 := by
  have a := (c_iremV q y).1 hq (by omega)
  have b := c_iadd x (q % y)
  have e := rng32 (x + q % y)
  omega
set_option maxRecDepth 65536 in
set_option maxHeartbeats 40000000 in
theorem rm1 (l : Launch) (Z : State) (a0 : Array Value) (hw : ∀ d ∈ tables_1, d.before a0 Z = true) (ws : List Jvm.Cond) (p0 : Int32) (p1 : Int32) (p2 : Int32) (p3 : Int32) (p4 : Int32) (p5 : Int32) (p6 : Int32) (h0 : Heap) (n0 : Nat) (Z0 : n0 ≤ h0.size) :
    W.Con l Z (⟨"com/example/borderline/borderline/TriePathsParentsPinLaw", "firstOf", "(IIIIIII)I"⟩ : MethodName) method_3_code 8 (some .int) ws ({ frames := 0, cells := 0, slots := 0, locals := 0 } : Room) ({ frames := 0, cells := 0, slots := 0, locals := 0 } : Room).cells ({ frames := 0, cells := 0, slots := 0, locals := 0 } : Room).slots #[(.int p0), (.int p1), (.int p2), (.int p3), (.int p4), (.int p5), (.int p6)] h0 n0 (fun v h => (∃ w : Int32, v = some (.int w) ∧ w.toInt = 1 + own_b p1.toInt 1 p2.toInt p0.toInt + own_b p1.toInt 2 p3.toInt p0.toInt + own_b p1.toInt 3 p4.toInt p0.toInt + own_b p1.toInt 4 p5.toInt p0.toInt + own_b p1.toInt 5 p6.toInt p0.toInt) ∧ h0 = h) := by
  refine W.enter (plainFor_of_name pn_0) Z0 ?_
  intro p e s m below meth c C hnm hsh
  have C : W.Cx p s m meth c Z n0 "com/example/borderline/borderline/TriePathsParentsPinLaw" method_3_code 8 (some .int) := C
  refine W.Go.castF (ef_1 m p0 p1 p2 p3 p4 p5 p6) ?_
  have J71 : ∀ (c1 : Int32) (hc1 : c1.toInt = 1 + own_b p1.toInt 1 p2.toInt p0.toInt + own_b p1.toInt 2 p3.toInt p0.toInt + own_b p1.toInt 3 p4.toInt p0.toInt + own_b p1.toInt 4 p5.toInt p0.toInt + own_b p1.toInt 5 p6.toInt p0.toInt), W.Go p l e ({ frames := 0, cells := 0, slots := 0, locals := 0 } : Room) s m #[(.int p0), (.int p1), (.int p2), (.int p3), (.int p4), (.int p5), (.int p6)] below meth c (fun s₂ o L => FrameEnd s o s₂ L ({ frames := 0, cells := 0, slots := 0, locals := 0 } : Room).cells ({ frames := 0, cells := 0, slots := 0, locals := 0 } : Room).slots) n0 (fun v h => (∃ w : Int32, v = some (.int w) ∧ w.toInt = 1 + own_b p1.toInt 1 p2.toInt p0.toInt + own_b p1.toInt 2 p3.toInt p0.toInt + own_b p1.toInt 3 p4.toInt p0.toInt + own_b p1.toInt 4 p5.toInt p0.toInt + own_b p1.toInt 5 p6.toInt p0.toInt) ∧ h0 = h) h0 (0) (0) (mkF m 71 #[.val (.int p0), .val (.int p1), .val (.int p2), .val (.int p3), .val (.int p4), .val (.int p5), .val (.int p6), .val (.int c1)] []) := by
    intro c1 hc1
    refine W.iload C d1_71 rfl rfl ?_
    refine W.retI C d1_73 (by decide) (by decide) (fun _ _ _ _ q => q) ?_
    exact ⟨⟨_, rfl, hc1⟩, rfl⟩
  have J57 : ∀ (c1 : Int32) (hc1 : c1.toInt = 1 + own_b p1.toInt 1 p2.toInt p0.toInt + own_b p1.toInt 2 p3.toInt p0.toInt + own_b p1.toInt 3 p4.toInt p0.toInt + own_b p1.toInt 4 p5.toInt p0.toInt), W.Go p l e ({ frames := 0, cells := 0, slots := 0, locals := 0 } : Room) s m #[(.int p0), (.int p1), (.int p2), (.int p3), (.int p4), (.int p5), (.int p6)] below meth c (fun s₂ o L => FrameEnd s o s₂ L ({ frames := 0, cells := 0, slots := 0, locals := 0 } : Room).cells ({ frames := 0, cells := 0, slots := 0, locals := 0 } : Room).slots) n0 (fun v h => (∃ w : Int32, v = some (.int w) ∧ w.toInt = 1 + own_b p1.toInt 1 p2.toInt p0.toInt + own_b p1.toInt 2 p3.toInt p0.toInt + own_b p1.toInt 3 p4.toInt p0.toInt + own_b p1.toInt 4 p5.toInt p0.toInt + own_b p1.toInt 5 p6.toInt p0.toInt) ∧ h0 = h) h0 (0) (0) (mkF m 57 #[.val (.int p0), .val (.int p1), .val (.int p2), .val (.int p3), .val (.int p4), .val (.int p5), .val (.int p6), .val (.int c1)] []) := by
    intro c1 hc1
    refine W.iloadN C d1_57 rfl rfl ?_
    refine W.iconst C (x := (5 : Int32)) d1_58 rfl rfl ?_
    refine W.icmp C (pc' := 71) (pn := 62) d1_59 (by decide) rfl rfl (W.q_le p1 (5 : Int32)) (fun hc59 => ?_) (fun hc59 => ?_)
    · simp only [Int32.reduceToInt] at hc59
      have zb : own_b p1.toInt 5 p6.toInt p0.toInt = 0 := if_neg (by omega)
      have zc0 := own_bs p1.toInt 1 p2.toInt p0.toInt
      have zc1 := own_bs p1.toInt 2 p3.toInt p0.toInt
      have zc2 := own_bs p1.toInt 3 p4.toInt p0.toInt
      have zc3 := own_bs p1.toInt 4 p5.toInt p0.toInt
      exact J71 c1 (by rw [zb]; first | omega | (simp only [Int32.reduceToInt]; omega) | decide)
    · refine W.iload C d1_62 rfl rfl ?_
      refine W.iloadN C d1_64 rfl rfl ?_
      refine W.icmp C (pc' := 71) (pn := 68) d1_65 (by decide) rfl rfl (W.q_ge p6 p0) (fun hc65 => ?_) (fun hc65 => ?_)
      · have zb : own_b p1.toInt 5 p6.toInt p0.toInt = 0 := if_neg (by omega)
        have zc0 := own_bs p1.toInt 1 p2.toInt p0.toInt
        have zc1 := own_bs p1.toInt 2 p3.toInt p0.toInt
        have zc2 := own_bs p1.toInt 3 p4.toInt p0.toInt
        have zc3 := own_bs p1.toInt 4 p5.toInt p0.toInt
        exact J71 c1 (by rw [zb]; first | omega | (simp only [Int32.reduceToInt]; omega) | decide)
      · refine W.iinc C (z := (c1 + (1 : Int32))) (Ls' := #[.val (.int p0), .val (.int p1), .val (.int p2), .val (.int p3), .val (.int p4), .val (.int p5), .val (.int p6), .val (.int (c1 + (1 : Int32)))]) d1_68 rfl rfl rfl rfl ?_
        simp only [Int32.reduceToInt] at hc59
        have zb : own_b p1.toInt 5 p6.toInt p0.toInt = 1 := if_pos ⟨by omega, by omega⟩
        have z1 := c_iadd c1 1
        have z2 := rng32 (c1 + 1)
        try simp only [Int32.reduceToInt] at z1
        have zc0 := own_bs p1.toInt 1 p2.toInt p0.toInt
        have zc1 := own_bs p1.toInt 2 p3.toInt p0.toInt
        have zc2 := own_bs p1.toInt 3 p4.toInt p0.toInt
        have zc3 := own_bs p1.toInt 4 p5.toInt p0.toInt
        exact J71 (c1 + (1 : Int32)) (by rw [zb]; first | omega | (simp only [Int32.reduceToInt]; omega) | decide)
  have J43 : ∀ (c1 : Int32) (hc1 : c1.toInt = 1 + own_b p1.toInt 1 p2.toInt p0.toInt + own_b p1.toInt 2 p3.toInt p0.toInt + own_b p1.toInt 3 p4.toInt p0.toInt), W.Go p l e ({ frames := 0, cells := 0, slots := 0, locals := 0 } : Room) s m #[(.int p0), (.int p1), (.int p2), (.int p3), (.int p4), (.int p5), (.int p6)] below meth c (fun s₂ o L => FrameEnd s o s₂ L ({ frames := 0, cells := 0, slots := 0, locals := 0 } : Room).cells ({ frames := 0, cells := 0, slots := 0, locals := 0 } : Room).slots) n0 (fun v h => (∃ w : Int32, v = some (.int w) ∧ w.toInt = 1 + own_b p1.toInt 1 p2.toInt p0.toInt + own_b p1.toInt 2 p3.toInt p0.toInt + own_b p1.toInt 3 p4.toInt p0.toInt + own_b p1.toInt 4 p5.toInt p0.toInt + own_b p1.toInt 5 p6.toInt p0.toInt) ∧ h0 = h) h0 (0) (0) (mkF m 43 #[.val (.int p0), .val (.int p1), .val (.int p2), .val (.int p3), .val (.int p4), .val (.int p5), .val (.int p6), .val (.int c1)] []) := by
    intro c1 hc1
    refine W.iloadN C d1_43 rfl rfl ?_
    refine W.iconst C (x := (4 : Int32)) d1_44 rfl rfl ?_
    refine W.icmp C (pc' := 57) (pn := 48) d1_45 (by decide) rfl rfl (W.q_le p1 (4 : Int32)) (fun hc45 => ?_) (fun hc45 => ?_)
    · simp only [Int32.reduceToInt] at hc45
      have zb : own_b p1.toInt 4 p5.toInt p0.toInt = 0 := if_neg (by omega)
      have zc0 := own_bs p1.toInt 1 p2.toInt p0.toInt
      have zc1 := own_bs p1.toInt 2 p3.toInt p0.toInt
      have zc2 := own_bs p1.toInt 3 p4.toInt p0.toInt
      exact J57 c1 (by rw [zb]; first | omega | (simp only [Int32.reduceToInt]; omega) | decide)
    · refine W.iload C d1_48 rfl rfl ?_
      refine W.iloadN C d1_50 rfl rfl ?_
      refine W.icmp C (pc' := 57) (pn := 54) d1_51 (by decide) rfl rfl (W.q_ge p5 p0) (fun hc51 => ?_) (fun hc51 => ?_)
      · have zb : own_b p1.toInt 4 p5.toInt p0.toInt = 0 := if_neg (by omega)
        have zc0 := own_bs p1.toInt 1 p2.toInt p0.toInt
        have zc1 := own_bs p1.toInt 2 p3.toInt p0.toInt
        have zc2 := own_bs p1.toInt 3 p4.toInt p0.toInt
        exact J57 c1 (by rw [zb]; first | omega | (simp only [Int32.reduceToInt]; omega) | decide)
      · refine W.iinc C (z := (c1 + (1 : Int32))) (Ls' := #[.val (.int p0), .val (.int p1), .val (.int p2), .val (.int p3), .val (.int p4), .val (.int p5), .val (.int p6), .val (.int (c1 + (1 : Int32)))]) d1_54 rfl rfl rfl rfl ?_
        simp only [Int32.reduceToInt] at hc45
        have zb : own_b p1.toInt 4 p5.toInt p0.toInt = 1 := if_pos ⟨by omega, by omega⟩
        have z1 := c_iadd c1 1
        have z2 := rng32 (c1 + 1)
        try simp only [Int32.reduceToInt] at z1
        have zc0 := own_bs p1.toInt 1 p2.toInt p0.toInt
        have zc1 := own_bs p1.toInt 2 p3.toInt p0.toInt
        have zc2 := own_bs p1.toInt 3 p4.toInt p0.toInt
        exact J57 (c1 + (1 : Int32)) (by rw [zb]; first | omega | (simp only [Int32.reduceToInt]; omega) | decide)
  have J29 : ∀ (c1 : Int32) (hc1 : c1.toInt = 1 + own_b p1.toInt 1 p2.toInt p0.toInt + own_b p1.toInt 2 p3.toInt p0.toInt), W.Go p l e ({ frames := 0, cells := 0, slots := 0, locals := 0 } : Room) s m #[(.int p0), (.int p1), (.int p2), (.int p3), (.int p4), (.int p5), (.int p6)] below meth c (fun s₂ o L => FrameEnd s o s₂ L ({ frames := 0, cells := 0, slots := 0, locals := 0 } : Room).cells ({ frames := 0, cells := 0, slots := 0, locals := 0 } : Room).slots) n0 (fun v h => (∃ w : Int32, v = some (.int w) ∧ w.toInt = 1 + own_b p1.toInt 1 p2.toInt p0.toInt + own_b p1.toInt 2 p3.toInt p0.toInt + own_b p1.toInt 3 p4.toInt p0.toInt + own_b p1.toInt 4 p5.toInt p0.toInt + own_b p1.toInt 5 p6.toInt p0.toInt) ∧ h0 = h) h0 (0) (0) (mkF m 29 #[.val (.int p0), .val (.int p1), .val (.int p2), .val (.int p3), .val (.int p4), .val (.int p5), .val (.int p6), .val (.int c1)] []) := by
    intro c1 hc1
    refine W.iloadN C d1_29 rfl rfl ?_
    refine W.iconst C (x := (3 : Int32)) d1_30 rfl rfl ?_
    refine W.icmp C (pc' := 43) (pn := 34) d1_31 (by decide) rfl rfl (W.q_le p1 (3 : Int32)) (fun hc31 => ?_) (fun hc31 => ?_)
    · simp only [Int32.reduceToInt] at hc31
      have zb : own_b p1.toInt 3 p4.toInt p0.toInt = 0 := if_neg (by omega)
      have zc0 := own_bs p1.toInt 1 p2.toInt p0.toInt
      have zc1 := own_bs p1.toInt 2 p3.toInt p0.toInt
      exact J43 c1 (by rw [zb]; first | omega | (simp only [Int32.reduceToInt]; omega) | decide)
    · refine W.iload C d1_34 rfl rfl ?_
      refine W.iloadN C d1_36 rfl rfl ?_
      refine W.icmp C (pc' := 43) (pn := 40) d1_37 (by decide) rfl rfl (W.q_ge p4 p0) (fun hc37 => ?_) (fun hc37 => ?_)
      · have zb : own_b p1.toInt 3 p4.toInt p0.toInt = 0 := if_neg (by omega)
        have zc0 := own_bs p1.toInt 1 p2.toInt p0.toInt
        have zc1 := own_bs p1.toInt 2 p3.toInt p0.toInt
        exact J43 c1 (by rw [zb]; first | omega | (simp only [Int32.reduceToInt]; omega) | decide)
      · refine W.iinc C (z := (c1 + (1 : Int32))) (Ls' := #[.val (.int p0), .val (.int p1), .val (.int p2), .val (.int p3), .val (.int p4), .val (.int p5), .val (.int p6), .val (.int (c1 + (1 : Int32)))]) d1_40 rfl rfl rfl rfl ?_
        simp only [Int32.reduceToInt] at hc31
        have zb : own_b p1.toInt 3 p4.toInt p0.toInt = 1 := if_pos ⟨by omega, by omega⟩
        have z1 := c_iadd c1 1
        have z2 := rng32 (c1 + 1)
        try simp only [Int32.reduceToInt] at z1
        have zc0 := own_bs p1.toInt 1 p2.toInt p0.toInt
        have zc1 := own_bs p1.toInt 2 p3.toInt p0.toInt
        exact J43 (c1 + (1 : Int32)) (by rw [zb]; first | omega | (simp only [Int32.reduceToInt]; omega) | decide)
  have J16 : ∀ (c1 : Int32) (hc1 : c1.toInt = 1 + own_b p1.toInt 1 p2.toInt p0.toInt), W.Go p l e ({ frames := 0, cells := 0, slots := 0, locals := 0 } : Room) s m #[(.int p0), (.int p1), (.int p2), (.int p3), (.int p4), (.int p5), (.int p6)] below meth c (fun s₂ o L => FrameEnd s o s₂ L ({ frames := 0, cells := 0, slots := 0, locals := 0 } : Room).cells ({ frames := 0, cells := 0, slots := 0, locals := 0 } : Room).slots) n0 (fun v h => (∃ w : Int32, v = some (.int w) ∧ w.toInt = 1 + own_b p1.toInt 1 p2.toInt p0.toInt + own_b p1.toInt 2 p3.toInt p0.toInt + own_b p1.toInt 3 p4.toInt p0.toInt + own_b p1.toInt 4 p5.toInt p0.toInt + own_b p1.toInt 5 p6.toInt p0.toInt) ∧ h0 = h) h0 (0) (0) (mkF m 16 #[.val (.int p0), .val (.int p1), .val (.int p2), .val (.int p3), .val (.int p4), .val (.int p5), .val (.int p6), .val (.int c1)] []) := by
    intro c1 hc1
    refine W.iloadN C d1_16 rfl rfl ?_
    refine W.iconst C (x := (2 : Int32)) d1_17 rfl rfl ?_
    refine W.icmp C (pc' := 29) (pn := 21) d1_18 (by decide) rfl rfl (W.q_le p1 (2 : Int32)) (fun hc18 => ?_) (fun hc18 => ?_)
    · simp only [Int32.reduceToInt] at hc18
      have zb : own_b p1.toInt 2 p3.toInt p0.toInt = 0 := if_neg (by omega)
      have zc0 := own_bs p1.toInt 1 p2.toInt p0.toInt
      exact J29 c1 (by rw [zb]; first | omega | (simp only [Int32.reduceToInt]; omega) | decide)
    · refine W.iloadN C d1_21 rfl rfl ?_
      refine W.iloadN C d1_22 rfl rfl ?_
      refine W.icmp C (pc' := 29) (pn := 26) d1_23 (by decide) rfl rfl (W.q_ge p3 p0) (fun hc23 => ?_) (fun hc23 => ?_)
      · have zb : own_b p1.toInt 2 p3.toInt p0.toInt = 0 := if_neg (by omega)
        have zc0 := own_bs p1.toInt 1 p2.toInt p0.toInt
        exact J29 c1 (by rw [zb]; first | omega | (simp only [Int32.reduceToInt]; omega) | decide)
      · refine W.iinc C (z := (c1 + (1 : Int32))) (Ls' := #[.val (.int p0), .val (.int p1), .val (.int p2), .val (.int p3), .val (.int p4), .val (.int p5), .val (.int p6), .val (.int (c1 + (1 : Int32)))]) d1_26 rfl rfl rfl rfl ?_
        simp only [Int32.reduceToInt] at hc18
        have zb : own_b p1.toInt 2 p3.toInt p0.toInt = 1 := if_pos ⟨by omega, by omega⟩
        have z1 := c_iadd c1 1
        have z2 := rng32 (c1 + 1)
        try simp only [Int32.reduceToInt] at z1
        have zc0 := own_bs p1.toInt 1 p2.toInt p0.toInt
        exact J29 (c1 + (1 : Int32)) (by rw [zb]; first | omega | (simp only [Int32.reduceToInt]; omega) | decide)
  refine W.iconst C (x := (1 : Int32)) d1_0 rfl rfl ?_
  refine W.istore C (Ls' := #[.val (.int p0), .val (.int p1), .val (.int p2), .val (.int p3), .val (.int p4), .val (.int p5), .val (.int p6), .val (.int (1 : Int32))]) d1_1 rfl rfl ?_
  refine W.iloadN C d1_3 rfl rfl ?_
  refine W.iconst C (x := (1 : Int32)) d1_4 rfl rfl ?_
  refine W.icmp C (pc' := 16) (pn := 8) d1_5 (by decide) rfl rfl (W.q_le p1 (1 : Int32)) (fun hc5 => ?_) (fun hc5 => ?_)
  · simp only [Int32.reduceToInt] at hc5
    have zb : own_b p1.toInt 1 p2.toInt p0.toInt = 0 := if_neg (by omega)
    exact J16 (1 : Int32) (by rw [zb]; first | omega | (simp only [Int32.reduceToInt]; omega) | decide)
  · refine W.iloadN C d1_8 rfl rfl ?_
    refine W.iloadN C d1_9 rfl rfl ?_
    refine W.icmp C (pc' := 16) (pn := 13) d1_10 (by decide) rfl rfl (W.q_ge p2 p0) (fun hc10 => ?_) (fun hc10 => ?_)
    · have zb : own_b p1.toInt 1 p2.toInt p0.toInt = 0 := if_neg (by omega)
      exact J16 (1 : Int32) (by rw [zb]; first | omega | (simp only [Int32.reduceToInt]; omega) | decide)
    · refine W.iinc C (z := (2 : Int32)) (Ls' := #[.val (.int p0), .val (.int p1), .val (.int p2), .val (.int p3), .val (.int p4), .val (.int p5), .val (.int p6), .val (.int (2 : Int32))]) d1_13 rfl rfl (by decide) rfl ?_
      simp only [Int32.reduceToInt] at hc5
      have zb : own_b p1.toInt 1 p2.toInt p0.toInt = 1 := if_pos ⟨by omega, by omega⟩
      have z1 := c_iadd (1 : Int32) 1
      have z2 := rng32 ((1 : Int32) + 1)
      try simp only [Int32.reduceToInt] at z1
      exact J16 (2 : Int32) (by rw [zb]; first | omega | (simp only [Int32.reduceToInt]; omega) | decide)
set_option maxRecDepth 65536 in
set_option maxHeartbeats 40000000 in
theorem rm2 (l : Launch) (Z : State) (a0 : Array Value) (hw : ∀ d ∈ tables_1, d.before a0 Z = true) (ws : List Jvm.Cond) (o0 : Addr) (p1 : Int32) (kf : ClassId) (lf : List Value) (F P : Int → Int) (h0 : Heap) (n0 : Nat) (Z0 : n0 ≤ h0.size) (VF : Arv Z h0 o0 kf .int (7 : Int32) lf (.int 0)) (n1 : 1 ≤ p1.toInt) (n6 : p1.toInt ≤ 6) (hg : ∀ j : Int32, 0 ≤ j.toInt → j.toInt < 7 → ∃ w : Int32, lf.getD j.toInt.toNat (.int 0) = .int w ∧ w.toInt = F j.toInt) (hF0 : F 0 = 1) (hFm : ∀ s, 0 ≤ s → s < p1.toInt → 1 ≤ F s ∧ F s ≤ F (s + 1) ∧ F (s + 1) ≤ p1.toInt) (hFn : F p1.toInt = p1.toInt) (hP : ∀ s c, 0 ≤ s → s < p1.toInt → F s ≤ c → c < F (s + 1) → P c = s) :
    W.Con l Z (⟨"com/example/borderline/borderline/TriePaths", "parents", "([II)[I"⟩ : MethodName) prog_22_method_2_code 5 (some (.array .int)) ws ({ frames := 0, cells := 1, slots := 6, locals := 0 } : Room) ({ frames := 0, cells := 1, slots := 6, locals := 0 } : Room).cells ({ frames := 0, cells := 1, slots := 6, locals := 0 } : Room).slots #[(.ref o0), (.int p1)] h0 n0 (fun v h => ∃ (b : Addr) (kb : ClassId), v = some (.ref b) ∧ n0 ≤ b ∧ Keep h0 h [] ∧ Arv Z h b kb .int p1 (own_vs P p1.toInt.toNat p1.toInt) (.int 0)) := by
  refine W.enter (plainFor_of_name pn_1) Z0 ?_
  intro p e s m below meth c C hnm hsh
  have C : W.Cx p s m meth c Z n0 "com/example/borderline/borderline/TriePaths" prog_22_method_2_code 5 (some (.array .int)) := C
  refine W.Go.castF (ef_2 m o0 p1) ?_
  refine W.iloadN C d2_0 rfl rfl ?_
  refine W.newarray C (cap := 6) (hw _ (List.mem_of_getElem? (i := 1) rfl)) d2_1 rfl (fun q => by have := Int32.lt_iff_toInt_lt.mp q; simp only [Int32.reduceToInt] at this; omega) (by show p1.toInt.toNat ≤ 6; omega) (by decide) (by decide) (by decide) (k' := 1) (n' := 6) rfl rfl ?_
  intro h1 b1 kc_b1 gb1 g0_b1 E1 Vb1
  have sz_b1 : h0.size ≤ b1 := by rw [gb1]; exact (Keep.refl h0 []).1
  have Vb1 : Arv Z h1 b1 kc_b1 .int p1 [] (.int (0 : Int32)) := Vb1
  obtain ⟨b, hb⟩ : ∃ z, z = b1 := ⟨_, rfl⟩
  obtain ⟨kb, hkb⟩ : ∃ z, z = kc_b1 := ⟨_, rfl⟩
  rw [← hb]
  have g0b : n0 ≤ b := hb ▸ g0_b1
  have sz_b : h0.size ≤ b := hb ▸ sz_b1
  have V5 : Arv Z h1 b kb .int p1 (List.replicate p1.toInt.toNat (.int 0)) (.int 0) := by rw [hb, hkb]; exact Vb1.pad (pad_rep [] _ _)
  have K5 : Keep h0 h1 [] := ((Keep.refl h0 []).ext E1)
  have J10 : ∀ (t : Nat) (s' : Int32) (x4 : Slot) (h9 : Heap), s'.toInt + t = p1.toInt → 0 ≤ s'.toInt → (x4 = .unset ∨ ∃ w4, x4 = .val (.int w4)) → Keep h0 h9 [] → Arv Z h9 b kb .int p1 (own_vs P p1.toInt.toNat (F s'.toInt)) (.int 0) → W.Go p l e ({ frames := 0, cells := 1, slots := 6, locals := 0 } : Room) s m #[(.ref o0), (.int p1)] below meth c (fun s₂ o L => FrameEnd s o s₂ L ({ frames := 0, cells := 1, slots := 6, locals := 0 } : Room).cells ({ frames := 0, cells := 1, slots := 6, locals := 0 } : Room).slots) n0 (fun v h => ∃ (b : Addr) (kb : ClassId), v = some (.ref b) ∧ n0 ≤ b ∧ Keep h0 h [] ∧ Arv Z h b kb .int p1 (own_vs P p1.toInt.toNat p1.toInt) (.int 0)) h9 (1) (6) (mkF m 10 #[.val (.ref o0), .val (.int p1), .val (.ref b), .val (.int s'), x4] []) := by
    intro t
    induction t with
    | zero =>
      intro u x4 h9 q1 q2 h4 K9 Vb
      have e9 : u.toInt = p1.toInt := by omega
      rw [e9] at Vb
      refine W.iloadN C d2_10 rfl rfl ?_
      refine W.iloadN C d2_11 rfl rfl ?_
      refine W.icmp C (pc' := 47) (pn := 15) d2_12 (by decide) rfl rfl (W.q_ge u p1) (fun hc12 => ?_) (fun hc12 => ?_)
      rotate_left
      · exfalso
        omega
      refine W.aloadN C d2_47 rfl rfl rfl ?_
      refine W.retA C rfl rfl rfl d2_48 (by decide) (by decide) (fun _ _ _ _ q => q) ?_
      exact ⟨b, kb, rfl, g0b, K9, by rw [hFn] at *; exact Vb⟩
    | succ t ih =>
      intro u x4 h9 q1 q2 h4 K9 Vb
      have m9 := hFm u.toInt (by omega) (by omega)
      have J20 : ∀ (t2 : Nat) (c' : Int32) (h8 : Heap), c'.toInt + t2 = F (u.toInt + 1) → F u.toInt ≤ c'.toInt → Keep h0 h8 [] → Arv Z h8 b kb .int p1 (own_vs P p1.toInt.toNat c'.toInt) (.int 0) → W.Go p l e ({ frames := 0, cells := 1, slots := 6, locals := 0 } : Room) s m #[(.ref o0), (.int p1)] below meth c (fun s₂ o L => FrameEnd s o s₂ L ({ frames := 0, cells := 1, slots := 6, locals := 0 } : Room).cells ({ frames := 0, cells := 1, slots := 6, locals := 0 } : Room).slots) n0 (fun v h => ∃ (b : Addr) (kb : ClassId), v = some (.ref b) ∧ n0 ≤ b ∧ Keep h0 h [] ∧ Arv Z h b kb .int p1 (own_vs P p1.toInt.toNat p1.toInt) (.int 0)) h8 (1) (6) (mkF m 20 #[.val (.ref o0), .val (.int p1), .val (.ref b), .val (.int u), .val (.int c')] []) := by
        intro t2
        induction t2 with
        | zero =>
          intro c1 h8 r1 r2 K8 Vb
          refine W.iload C d2_20 rfl rfl ?_
          refine W.aloadN C d2_22 rfl rfl rfl ?_
          refine W.iloadN C d2_23 rfl rfl ?_
          refine W.iconst C (x := (1 : Int32)) d2_24 rfl rfl ?_
          refine W.iadd C (z := (u + (1 : Int32))) d2_25 rfl rfl ?_
          have z1 := c_iadd u 1
          have z2 := rng32 (u + 1)
          simp only [Int32.reduceToInt] at z1
          have z3 : (u + 1).toInt = u.toInt + 1 := by omega
          obtain ⟨w2, y1, y2⟩ := hg (u + 1) (by omega) (by omega)
          rw [z3] at y2
          refine W.iaload C (VF.keep K8 nin0) (by omega) (by simp only [Int32.reduceToInt]; omega) y1 d2_26 rfl ?_
          refine W.icmp C (pc' := 41) (pn := 30) d2_27 (by decide) rfl rfl (W.q_ge c1 w2) (fun hc27 => ?_) (fun hc27 => ?_)
          rotate_left
          · exfalso
            omega
          refine W.iinc C (z := (u + (1 : Int32))) (Ls' := #[.val (.ref o0), .val (.int p1), .val (.ref b), .val (.int (u + (1 : Int32))), .val (.int c1)]) d2_41 rfl rfl rfl rfl ?_
          refine W.goto C (pc' := 10) d2_44 (by decide) rfl ?_
          exact ih (u + (1 : Int32)) (.val (.int c1)) h8 (by rw [z3]; omega) (by omega) (Or.inr ⟨_, rfl⟩) K8 (by rw [z3, ← y2, show w2.toInt = c1.toInt by omega]; exact Vb)
        | succ t2 ih2 =>
          intro c1 h8 r1 r2 K8 Vb
          refine W.iload C d2_20 rfl rfl ?_
          refine W.aloadN C d2_22 rfl rfl rfl ?_
          refine W.iloadN C d2_23 rfl rfl ?_
          refine W.iconst C (x := (1 : Int32)) d2_24 rfl rfl ?_
          refine W.iadd C (z := (u + (1 : Int32))) d2_25 rfl rfl ?_
          have z1 := c_iadd u 1
          have z2 := rng32 (u + 1)
          simp only [Int32.reduceToInt] at z1
          have z3 : (u + 1).toInt = u.toInt + 1 := by omega
          obtain ⟨w2, y1, y2⟩ := hg (u + 1) (by omega) (by omega)
          rw [z3] at y2
          refine W.iaload C (VF.keep K8 nin0) (by omega) (by simp only [Int32.reduceToInt]; omega) y1 d2_26 rfl ?_
          refine W.icmp C (pc' := 41) (pn := 30) d2_27 (by decide) rfl rfl (W.q_ge c1 w2) (fun hc27 => ?_) (fun hc27 => ?_)
          · exfalso
            omega
          refine W.aloadN C d2_30 rfl rfl rfl ?_
          refine W.iload C d2_31 rfl rfl ?_
          refine W.iloadN C d2_33 rfl rfl ?_
          refine W.iastore C Vb (by omega) (by omega) (by rw [own_vl]; omega) g0b d2_34 rfl ?_
          intro h7 W7 V7
          rw [own_vset P p1.toInt.toNat c1 u (by omega) (by omega) (hP u.toInt c1.toInt (by omega) (by omega) (by omega) (by omega))] at V7
          have K7 : Keep h0 h7 [] := K8.wr W7 (Or.inr sz_b)
          refine W.iinc C (z := (c1 + (1 : Int32))) (Ls' := #[.val (.ref o0), .val (.int p1), .val (.ref b), .val (.int u), .val (.int (c1 + (1 : Int32)))]) d2_35 rfl rfl rfl rfl ?_
          refine W.goto C (pc' := 20) d2_38 (by decide) rfl ?_
          have z4 := c_iadd c1 1
          have z5 := rng32 (c1 + 1)
          simp only [Int32.reduceToInt] at z4
          have z6 : (c1 + 1).toInt = c1.toInt + 1 := by omega
          exact ih2 (c1 + (1 : Int32)) h7 (by omega) (by omega) K7 (by rw [z6]; exact V7)
      refine W.iloadN C d2_10 rfl rfl ?_
      refine W.iloadN C d2_11 rfl rfl ?_
      refine W.icmp C (pc' := 47) (pn := 15) d2_12 (by decide) rfl rfl (W.q_ge u p1) (fun hc12 => ?_) (fun hc12 => ?_)
      · exfalso
        omega
      refine W.aloadN C d2_15 rfl rfl rfl ?_
      refine W.iloadN C d2_16 rfl rfl ?_
      obtain ⟨w1, x1, x2⟩ := hg u (by omega) (by omega)
      refine W.iaload C (VF.keep K9 nin0) (by omega) (by simp only [Int32.reduceToInt]; omega) x1 d2_17 rfl ?_
      rcases h4 with rfl | ⟨w4, rfl⟩
      · refine W.istore C (Ls' := #[.val (.ref o0), .val (.int p1), .val (.ref b), .val (.int u), .val (.int w1)]) d2_18 rfl rfl ?_
        exact J20 (F (u.toInt + 1) - w1.toInt).toNat w1 h9 (by omega) (by omega) K9 (by rw [x2]; exact Vb)
      · refine W.istore C (Ls' := #[.val (.ref o0), .val (.int p1), .val (.ref b), .val (.int u), .val (.int w1)]) d2_18 rfl rfl ?_
        exact J20 (F (u.toInt + 1) - w1.toInt).toNat w1 h9 (by omega) (by omega) K9 (by rw [x2]; exact Vb)
  refine W.astoreN C (Ls' := #[.val (.ref o0), .val (.int p1), .val (.ref b), .unset, .unset]) d2_3 rfl rfl rfl ?_
  refine W.aloadN C d2_4 rfl rfl rfl ?_
  refine W.iconst C (x := (0 : Int32)) d2_5 rfl rfl ?_
  refine W.iconst C (x := (-1 : Int32)) d2_6 rfl rfl ?_
  refine W.iastore C V5 (by decide) (by simp only [Int32.reduceToInt]; omega) (by rw [List.length_replicate]; show 0 < p1.toInt.toNat; omega) g0b d2_7 rfl ?_
  intro h6 W6 V6'
  have V6 : Arv Z h6 b kb .int p1 (own_vs P p1.toInt.toNat 1) (.int 0) := by
    have e := own_v1 P p1.toInt.toNat (by omega)
    rw [← e]; exact V6'
  have K6 : Keep h0 h6 [] := K5.wr W6 (Or.inr sz_b)
  refine W.iconst C (x := (0 : Int32)) d2_8 rfl rfl ?_
  refine W.istoreN C (Ls' := #[.val (.ref o0), .val (.int p1), .val (.ref b), .val (.int (0 : Int32)), .unset]) d2_9 rfl rfl ?_
  exact J10 p1.toInt.toNat 0 .unset h6 (by simp only [Int32.reduceToInt]; omega) (by decide) (Or.inl rfl) K6 (by rw [show F (0 : Int32).toInt = 1 from hF0]; exact V6)
set_option maxRecDepth 65536 in
set_option maxHeartbeats 40000000 in
theorem rm0 (l : Launch) (Z : State) (a0 : Array Value) (hw : ∀ d ∈ tables_1, d.before a0 Z = true) (ws : List Jvm.Cond) (p0 : Int32) (p1 : Int32) (h0 : Heap) (n0 : Nat) (Z0 : n0 ≤ h0.size) :
    W.Con l Z x code maxLocals ret ws room_1 16 128 #[(.int p0), (.int p1)] h0 n0 (fun v _ => v = some (.int 1)) := by
  refine W.enter (plainFor_of_name pn_0) Z0 ?_
  intro p e s m below meth c C hnm hsh
  have C : W.Cx p s m meth c Z n0 "com/example/borderline/borderline/TriePathsParentsPinLaw" code 10 (some .boolean) := C
  refine W.Go.castF (ef_0 m p0 p1) ?_
  refine W.iconst C (x := (1 : Int32)) at_0 rfl rfl ?_
  refine W.iloadN C at_1 rfl rfl ?_
  refine W.ldcI C (hw _ (List.mem_of_getElem? (i := 0) rfl)) at_2 rfl ?_
  refine W.iand C (z := (p0 &&& (2147483647 : Int32))) at_4 rfl rfl ?_
  refine W.bipush C (x := (6 : Int32)) at_5 rfl rfl ?_
  refine W.irem C (z := ((p0 &&& (2147483647 : Int32)) % (6 : Int32))) at_7 rfl (by decide) rfl ?_
  refine W.iadd C (z := ((1 : Int32) + ((p0 &&& (2147483647 : Int32)) % (6 : Int32)))) at_8 rfl rfl ?_
  obtain ⟨n, hn⟩ : ∃ z, z = ((1 : Int32) + ((p0 &&& (2147483647 : Int32)) % (6 : Int32))) := ⟨_, rfl⟩
  rw [← hn]
  have rn : 1 ≤ n.toInt ∧ n.toInt ≤ 6 := by
    have a := c_mask p0 2147483647 31 (by decide) (by decide)
    have b := (c_irem (p0 &&& (2147483647 : Int32)) 6 6 rfl).1
    have d : ((2 ^ 31 : Nat) : Int) = 2147483648 := rfl
    have e := c_iadd 1 ((p0 &&& (2147483647 : Int32)) % 6)
    have f := rng32 (1 + (p0 &&& (2147483647 : Int32)) % 6)
    simp only [Int32.reduceToInt] at e
    rw [d] at a; rw [hn]; omega
  refine W.istoreN C (Ls' := #[.val (.int p0), .val (.int p1), .val (.int n), .unset, .unset, .unset, .unset, .unset, .unset, .unset]) at_9 rfl rfl ?_
  refine W.iconst C (x := (0 : Int32)) at_10 rfl rfl ?_
  refine W.iloadN C at_11 rfl rfl ?_
  refine W.bipush C (x := (7 : Int32)) at_12 rfl rfl ?_
  refine W.iand C (z := (p1 &&& (7 : Int32))) at_14 rfl rfl ?_
  refine W.iconst C (x := (2 : Int32)) at_15 rfl rfl ?_
  refine W.irem C (z := ((p1 &&& (7 : Int32)) % (2 : Int32))) at_16 rfl (by decide) rfl ?_
  refine W.iadd C (z := ((0 : Int32) + ((p1 &&& (7 : Int32)) % (2 : Int32)))) at_17 rfl rfl ?_
  obtain ⟨x2, hx2⟩ : ∃ z, z = ((0 : Int32) + ((p1 &&& (7 : Int32)) % (2 : Int32))) := ⟨_, rfl⟩
  rw [← hx2]
  have r2 : 0 ≤ x2.toInt ∧ x2.toInt ≤ 1 := by
    have a := own_stp 0 2 (p1 &&& 7) 2 rfl (by decide) (by decide) (by have a := c_and (p1) 7 (by decide); exact a.1) (by decide)
    simp only [Int32.reduceToInt] at a
    rw [hx2]; omega
  refine W.istoreN C (Ls' := #[.val (.int p0), .val (.int p1), .val (.int n), .val (.int x2), .unset, .unset, .unset, .unset, .unset, .unset]) at_18 rfl rfl ?_
  refine W.iloadN C at_19 rfl rfl ?_
  refine W.iloadN C at_20 rfl rfl ?_
  refine W.iconst C (x := (3 : Int32)) at_21 rfl rfl ?_
  refine W.iushr C (z := (((p1).toUInt32 >>> ((3 : Int32) &&& 31).toUInt32).toInt32)) at_22 rfl rfl ?_
  refine W.bipush C (x := (7 : Int32)) at_23 rfl rfl ?_
  refine W.iand C (z := ((((p1).toUInt32 >>> ((3 : Int32) &&& 31).toUInt32).toInt32) &&& (7 : Int32))) at_25 rfl rfl ?_
  refine W.iconst C (x := (3 : Int32)) at_26 rfl rfl ?_
  refine W.iloadN C at_27 rfl rfl ?_
  refine W.isub C (z := ((3 : Int32) - x2)) at_28 rfl rfl ?_
  have hnz29 : ((3 : Int32) - x2) ≠ 0 := fun q => by
    have z := congrArg Int32.toInt q
    have a := c_isub 3 x2
    have b := rng32 (3 - x2)
    simp only [Int32.reduceToInt] at a z
    omega
  refine W.irem C (z := (((((p1).toUInt32 >>> ((3 : Int32) &&& 31).toUInt32).toInt32) &&& (7 : Int32)) % ((3 : Int32) - x2))) at_29 rfl hnz29 rfl ?_
  refine W.iadd C (z := (x2 + (((((p1).toUInt32 >>> ((3 : Int32) &&& 31).toUInt32).toInt32) &&& (7 : Int32)) % ((3 : Int32) - x2)))) at_30 rfl rfl ?_
  obtain ⟨x3, hx3⟩ : ∃ z, z = (x2 + (((((p1).toUInt32 >>> ((3 : Int32) &&& 31).toUInt32).toInt32) &&& (7 : Int32)) % ((3 : Int32) - x2))) := ⟨_, rfl⟩
  rw [← hx3]
  have sx3 : (3 - x2).toInt = 3 - x2.toInt := by
    have a := c_isub 3 x2
    have b := rng32 (3 - x2)
    simp only [Int32.reduceToInt] at a
    omega
  have r3 : x2.toInt ≤ x3.toInt ∧ x3.toInt ≤ 2 := by
    have a := own_stp x2 (3 - x2) ((p1.toUInt32 >>> ((3 : Int32) &&& 31).toUInt32).toInt32 &&& 7) (3 - x2.toInt) sx3 (by omega) (by omega) (by have a := c_and ((p1.toUInt32 >>> ((3 : Int32) &&& 31).toUInt32).toInt32) 7 (by decide); exact a.1) (by omega)
    rw [hx3]; omega
  refine W.istore C (Ls' := #[.val (.int p0), .val (.int p1), .val (.int n), .val (.int x2), .val (.int x3), .unset, .unset, .unset, .unset, .unset]) at_31 rfl rfl ?_
  refine W.iload C at_33 rfl rfl ?_
  refine W.iloadN C at_35 rfl rfl ?_
  refine W.bipush C (x := (6 : Int32)) at_36 rfl rfl ?_
  refine W.iushr C (z := (((p1).toUInt32 >>> ((6 : Int32) &&& 31).toUInt32).toInt32)) at_38 rfl rfl ?_
  refine W.bipush C (x := (7 : Int32)) at_39 rfl rfl ?_
  refine W.iand C (z := ((((p1).toUInt32 >>> ((6 : Int32) &&& 31).toUInt32).toInt32) &&& (7 : Int32))) at_41 rfl rfl ?_
  refine W.iconst C (x := (4 : Int32)) at_42 rfl rfl ?_
  refine W.iload C at_43 rfl rfl ?_
  refine W.isub C (z := ((4 : Int32) - x3)) at_45 rfl rfl ?_
  have hnz46 : ((4 : Int32) - x3) ≠ 0 := fun q => by
    have z := congrArg Int32.toInt q
    have a := c_isub 4 x3
    have b := rng32 (4 - x3)
    simp only [Int32.reduceToInt] at a z
    omega
  refine W.irem C (z := (((((p1).toUInt32 >>> ((6 : Int32) &&& 31).toUInt32).toInt32) &&& (7 : Int32)) % ((4 : Int32) - x3))) at_46 rfl hnz46 rfl ?_
  refine W.iadd C (z := (x3 + (((((p1).toUInt32 >>> ((6 : Int32) &&& 31).toUInt32).toInt32) &&& (7 : Int32)) % ((4 : Int32) - x3)))) at_47 rfl rfl ?_
  obtain ⟨x4, hx4⟩ : ∃ z, z = (x3 + (((((p1).toUInt32 >>> ((6 : Int32) &&& 31).toUInt32).toInt32) &&& (7 : Int32)) % ((4 : Int32) - x3))) := ⟨_, rfl⟩
  rw [← hx4]
  have sx4 : (4 - x3).toInt = 4 - x3.toInt := by
    have a := c_isub 4 x3
    have b := rng32 (4 - x3)
    simp only [Int32.reduceToInt] at a
    omega
  have r4 : x3.toInt ≤ x4.toInt ∧ x4.toInt ≤ 3 := by
    have a := own_stp x3 (4 - x3) ((p1.toUInt32 >>> ((6 : Int32) &&& 31).toUInt32).toInt32 &&& 7) (4 - x3.toInt) sx4 (by omega) (by omega) (by have a := c_and ((p1.toUInt32 >>> ((6 : Int32) &&& 31).toUInt32).toInt32) 7 (by decide); exact a.1) (by omega)
    rw [hx4]; omega
  refine W.istore C (Ls' := #[.val (.int p0), .val (.int p1), .val (.int n), .val (.int x2), .val (.int x3), .val (.int x4), .unset, .unset, .unset, .unset]) at_48 rfl rfl ?_
  refine W.iload C at_50 rfl rfl ?_
  refine W.iloadN C at_52 rfl rfl ?_
  refine W.bipush C (x := (9 : Int32)) at_53 rfl rfl ?_
  refine W.iushr C (z := (((p1).toUInt32 >>> ((9 : Int32) &&& 31).toUInt32).toInt32)) at_55 rfl rfl ?_
  refine W.bipush C (x := (7 : Int32)) at_56 rfl rfl ?_
  refine W.iand C (z := ((((p1).toUInt32 >>> ((9 : Int32) &&& 31).toUInt32).toInt32) &&& (7 : Int32))) at_58 rfl rfl ?_
  refine W.iconst C (x := (5 : Int32)) at_59 rfl rfl ?_
  refine W.iload C at_60 rfl rfl ?_
  refine W.isub C (z := ((5 : Int32) - x4)) at_62 rfl rfl ?_
  have hnz63 : ((5 : Int32) - x4) ≠ 0 := fun q => by
    have z := congrArg Int32.toInt q
    have a := c_isub 5 x4
    have b := rng32 (5 - x4)
    simp only [Int32.reduceToInt] at a z
    omega
  refine W.irem C (z := (((((p1).toUInt32 >>> ((9 : Int32) &&& 31).toUInt32).toInt32) &&& (7 : Int32)) % ((5 : Int32) - x4))) at_63 rfl hnz63 rfl ?_
  refine W.iadd C (z := (x4 + (((((p1).toUInt32 >>> ((9 : Int32) &&& 31).toUInt32).toInt32) &&& (7 : Int32)) % ((5 : Int32) - x4)))) at_64 rfl rfl ?_
  obtain ⟨x5, hx5⟩ : ∃ z, z = (x4 + (((((p1).toUInt32 >>> ((9 : Int32) &&& 31).toUInt32).toInt32) &&& (7 : Int32)) % ((5 : Int32) - x4))) := ⟨_, rfl⟩
  rw [← hx5]
  have sx5 : (5 - x4).toInt = 5 - x4.toInt := by
    have a := c_isub 5 x4
    have b := rng32 (5 - x4)
    simp only [Int32.reduceToInt] at a
    omega
  have r5 : x4.toInt ≤ x5.toInt ∧ x5.toInt ≤ 4 := by
    have a := own_stp x4 (5 - x4) ((p1.toUInt32 >>> ((9 : Int32) &&& 31).toUInt32).toInt32 &&& 7) (5 - x4.toInt) sx5 (by omega) (by omega) (by have a := c_and ((p1.toUInt32 >>> ((9 : Int32) &&& 31).toUInt32).toInt32) 7 (by decide); exact a.1) (by omega)
    rw [hx5]; omega
  refine W.istore C (Ls' := #[.val (.int p0), .val (.int p1), .val (.int n), .val (.int x2), .val (.int x3), .val (.int x4), .val (.int x5), .unset, .unset, .unset]) at_65 rfl rfl ?_
  refine W.bipush C (x := (7 : Int32)) at_67 rfl rfl ?_
  refine W.newarray C (cap := 7) (hw _ (List.mem_of_getElem? (i := 1) rfl)) at_69 rfl (by decide) (by decide) (by decide) (by decide) (by decide) (k' := 1) (n' := 7) rfl rfl ?_
  intro h1 b1 kc_b1 gb1 g0_b1 E1 Vb1
  have Vb1 : Arv Z h1 b1 kc_b1 .int (7 : Int32) [(.int (0 : Int32)), (.int (0 : Int32)), (.int (0 : Int32)), (.int (0 : Int32)), (.int (0 : Int32)), (.int (0 : Int32)), (.int (0 : Int32))] (.int (0 : Int32)) := Vb1.pad (pad_rep [] (.int (0 : Int32)) 7)
  refine W.astore C (Ls' := #[.val (.int p0), .val (.int p1), .val (.int n), .val (.int x2), .val (.int x3), .val (.int x4), .val (.int x5), .val (.ref b1), .unset, .unset]) at_71 rfl rfl rfl ?_
  refine W.aload C at_73 rfl rfl rfl ?_
  refine W.iconst C (x := (0 : Int32)) at_75 rfl rfl ?_
  refine W.iconst C (x := (0 : Int32)) at_76 rfl rfl ?_
  refine W.iloadN C at_77 rfl rfl ?_
  refine W.iconst C (x := (0 : Int32)) at_78 rfl rfl ?_
  refine W.iloadN C at_79 rfl rfl ?_
  refine W.iload C at_80 rfl rfl ?_
  refine W.iload C at_82 rfl rfl ?_
  refine W.iload C at_84 rfl rfl ?_
  refine W.callS C (y := (⟨"com/example/borderline/borderline/TriePathsParentsPinLaw", "firstOf", "(IIIIIII)I"⟩ : MethodName)) (hw _ (List.mem_of_getElem? (i := 2) rfl)) (hw _ (List.mem_of_getElem? (i := 3) rfl)) (hw _ (List.mem_of_getElem? (i := 4) rfl)) (hw _ (List.mem_of_getElem? (i := 5) rfl)) (by decide) (fun hz => rm1 l Z a0 hw [] (0 : Int32) n (0 : Int32) x2 x3 x4 x5 h1 n0 hz) at_86 rfl rfl pd_0 rfl (argsL := [(.int (0 : Int32)), (.int n), (.int (0 : Int32)), (.int x2), (.int x3), (.int x4), (.int x5)]) (rest := [(.int (0 : Int32)), (.ref b1)]) rfl (W := 2) rfl (by decide) (by decide) (by decide) (by decide) (k' := 1) (n' := 7) rfl rfl ?_
  rintro hh0 _ ⟨⟨w0, rfl, e0⟩, rfl⟩
  show W.Go p l e _ _ m _ below meth c _ _ _ _ _ _ (mkF m 89 #[.val (.int p0), .val (.int p1), .val (.int n), .val (.int x2), .val (.int x3), .val (.int x4), .val (.int x5), .val (.ref b1), .unset, .unset] [(.int w0), (.int (0 : Int32)), (.ref b1)])
  refine W.iastore C Vb1 (by decide) (by decide) (show 0 < 7 from by decide) g0_b1 at_89 rfl ?_
  intro h2 W2 V2
  have V2 : Arv Z h2 b1 kc_b1 .int (7 : Int32) [(.int w0), (.int (0 : Int32)), (.int (0 : Int32)), (.int (0 : Int32)), (.int (0 : Int32)), (.int (0 : Int32)), (.int (0 : Int32))] (.int (0 : Int32)) := V2
  refine W.aload C at_90 rfl rfl rfl ?_
  refine W.iconst C (x := (1 : Int32)) at_92 rfl rfl ?_
  refine W.iconst C (x := (1 : Int32)) at_93 rfl rfl ?_
  refine W.iloadN C at_94 rfl rfl ?_
  refine W.iconst C (x := (0 : Int32)) at_95 rfl rfl ?_
  refine W.iloadN C at_96 rfl rfl ?_
  refine W.iload C at_97 rfl rfl ?_
  refine W.iload C at_99 rfl rfl ?_
  refine W.iload C at_101 rfl rfl ?_
  refine W.callS C (y := (⟨"com/example/borderline/borderline/TriePathsParentsPinLaw", "firstOf", "(IIIIIII)I"⟩ : MethodName)) (hw _ (List.mem_of_getElem? (i := 2) rfl)) (hw _ (List.mem_of_getElem? (i := 3) rfl)) (hw _ (List.mem_of_getElem? (i := 4) rfl)) (hw _ (List.mem_of_getElem? (i := 5) rfl)) (by decide) (fun hz => rm1 l Z a0 hw [] (1 : Int32) n (0 : Int32) x2 x3 x4 x5 h2 n0 hz) at_103 rfl rfl pd_0 rfl (argsL := [(.int (1 : Int32)), (.int n), (.int (0 : Int32)), (.int x2), (.int x3), (.int x4), (.int x5)]) (rest := [(.int (1 : Int32)), (.ref b1)]) rfl (W := 2) rfl (by decide) (by decide) (by decide) (by decide) (k' := 1) (n' := 7) rfl rfl ?_
  rintro hh1 _ ⟨⟨w1, rfl, e1⟩, rfl⟩
  show W.Go p l e _ _ m _ below meth c _ _ _ _ _ _ (mkF m 106 #[.val (.int p0), .val (.int p1), .val (.int n), .val (.int x2), .val (.int x3), .val (.int x4), .val (.int x5), .val (.ref b1), .unset, .unset] [(.int w1), (.int (1 : Int32)), (.ref b1)])
  refine W.iastore C V2 (by decide) (by decide) (show 1 < 7 from by decide) g0_b1 at_106 rfl ?_
  intro h3 W3 V3
  have V3 : Arv Z h3 b1 kc_b1 .int (7 : Int32) [(.int w0), (.int w1), (.int (0 : Int32)), (.int (0 : Int32)), (.int (0 : Int32)), (.int (0 : Int32)), (.int (0 : Int32))] (.int (0 : Int32)) := V3
  refine W.aload C at_107 rfl rfl rfl ?_
  refine W.iconst C (x := (2 : Int32)) at_109 rfl rfl ?_
  refine W.iconst C (x := (2 : Int32)) at_110 rfl rfl ?_
  refine W.iloadN C at_111 rfl rfl ?_
  refine W.iconst C (x := (0 : Int32)) at_112 rfl rfl ?_
  refine W.iloadN C at_113 rfl rfl ?_
  refine W.iload C at_114 rfl rfl ?_
  refine W.iload C at_116 rfl rfl ?_
  refine W.iload C at_118 rfl rfl ?_
  refine W.callS C (y := (⟨"com/example/borderline/borderline/TriePathsParentsPinLaw", "firstOf", "(IIIIIII)I"⟩ : MethodName)) (hw _ (List.mem_of_getElem? (i := 2) rfl)) (hw _ (List.mem_of_getElem? (i := 3) rfl)) (hw _ (List.mem_of_getElem? (i := 4) rfl)) (hw _ (List.mem_of_getElem? (i := 5) rfl)) (by decide) (fun hz => rm1 l Z a0 hw [] (2 : Int32) n (0 : Int32) x2 x3 x4 x5 h3 n0 hz) at_120 rfl rfl pd_0 rfl (argsL := [(.int (2 : Int32)), (.int n), (.int (0 : Int32)), (.int x2), (.int x3), (.int x4), (.int x5)]) (rest := [(.int (2 : Int32)), (.ref b1)]) rfl (W := 2) rfl (by decide) (by decide) (by decide) (by decide) (k' := 1) (n' := 7) rfl rfl ?_
  rintro hh2 _ ⟨⟨w2, rfl, e2⟩, rfl⟩
  show W.Go p l e _ _ m _ below meth c _ _ _ _ _ _ (mkF m 123 #[.val (.int p0), .val (.int p1), .val (.int n), .val (.int x2), .val (.int x3), .val (.int x4), .val (.int x5), .val (.ref b1), .unset, .unset] [(.int w2), (.int (2 : Int32)), (.ref b1)])
  refine W.iastore C V3 (by decide) (by decide) (show 2 < 7 from by decide) g0_b1 at_123 rfl ?_
  intro h4 W4 V4
  have V4 : Arv Z h4 b1 kc_b1 .int (7 : Int32) [(.int w0), (.int w1), (.int w2), (.int (0 : Int32)), (.int (0 : Int32)), (.int (0 : Int32)), (.int (0 : Int32))] (.int (0 : Int32)) := V4
  refine W.aload C at_124 rfl rfl rfl ?_
  refine W.iconst C (x := (3 : Int32)) at_126 rfl rfl ?_
  refine W.iconst C (x := (3 : Int32)) at_127 rfl rfl ?_
  refine W.iloadN C at_128 rfl rfl ?_
  refine W.iconst C (x := (0 : Int32)) at_129 rfl rfl ?_
  refine W.iloadN C at_130 rfl rfl ?_
  refine W.iload C at_131 rfl rfl ?_
  refine W.iload C at_133 rfl rfl ?_
  refine W.iload C at_135 rfl rfl ?_
  refine W.callS C (y := (⟨"com/example/borderline/borderline/TriePathsParentsPinLaw", "firstOf", "(IIIIIII)I"⟩ : MethodName)) (hw _ (List.mem_of_getElem? (i := 2) rfl)) (hw _ (List.mem_of_getElem? (i := 3) rfl)) (hw _ (List.mem_of_getElem? (i := 4) rfl)) (hw _ (List.mem_of_getElem? (i := 5) rfl)) (by decide) (fun hz => rm1 l Z a0 hw [] (3 : Int32) n (0 : Int32) x2 x3 x4 x5 h4 n0 hz) at_137 rfl rfl pd_0 rfl (argsL := [(.int (3 : Int32)), (.int n), (.int (0 : Int32)), (.int x2), (.int x3), (.int x4), (.int x5)]) (rest := [(.int (3 : Int32)), (.ref b1)]) rfl (W := 2) rfl (by decide) (by decide) (by decide) (by decide) (k' := 1) (n' := 7) rfl rfl ?_
  rintro hh3 _ ⟨⟨w3, rfl, e3⟩, rfl⟩
  show W.Go p l e _ _ m _ below meth c _ _ _ _ _ _ (mkF m 140 #[.val (.int p0), .val (.int p1), .val (.int n), .val (.int x2), .val (.int x3), .val (.int x4), .val (.int x5), .val (.ref b1), .unset, .unset] [(.int w3), (.int (3 : Int32)), (.ref b1)])
  refine W.iastore C V4 (by decide) (by decide) (show 3 < 7 from by decide) g0_b1 at_140 rfl ?_
  intro h5 W5 V5
  have V5 : Arv Z h5 b1 kc_b1 .int (7 : Int32) [(.int w0), (.int w1), (.int w2), (.int w3), (.int (0 : Int32)), (.int (0 : Int32)), (.int (0 : Int32))] (.int (0 : Int32)) := V5
  refine W.aload C at_141 rfl rfl rfl ?_
  refine W.iconst C (x := (4 : Int32)) at_143 rfl rfl ?_
  refine W.iconst C (x := (4 : Int32)) at_144 rfl rfl ?_
  refine W.iloadN C at_145 rfl rfl ?_
  refine W.iconst C (x := (0 : Int32)) at_146 rfl rfl ?_
  refine W.iloadN C at_147 rfl rfl ?_
  refine W.iload C at_148 rfl rfl ?_
  refine W.iload C at_150 rfl rfl ?_
  refine W.iload C at_152 rfl rfl ?_
  refine W.callS C (y := (⟨"com/example/borderline/borderline/TriePathsParentsPinLaw", "firstOf", "(IIIIIII)I"⟩ : MethodName)) (hw _ (List.mem_of_getElem? (i := 2) rfl)) (hw _ (List.mem_of_getElem? (i := 3) rfl)) (hw _ (List.mem_of_getElem? (i := 4) rfl)) (hw _ (List.mem_of_getElem? (i := 5) rfl)) (by decide) (fun hz => rm1 l Z a0 hw [] (4 : Int32) n (0 : Int32) x2 x3 x4 x5 h5 n0 hz) at_154 rfl rfl pd_0 rfl (argsL := [(.int (4 : Int32)), (.int n), (.int (0 : Int32)), (.int x2), (.int x3), (.int x4), (.int x5)]) (rest := [(.int (4 : Int32)), (.ref b1)]) rfl (W := 2) rfl (by decide) (by decide) (by decide) (by decide) (k' := 1) (n' := 7) rfl rfl ?_
  rintro hh4 _ ⟨⟨w4, rfl, e4⟩, rfl⟩
  show W.Go p l e _ _ m _ below meth c _ _ _ _ _ _ (mkF m 157 #[.val (.int p0), .val (.int p1), .val (.int n), .val (.int x2), .val (.int x3), .val (.int x4), .val (.int x5), .val (.ref b1), .unset, .unset] [(.int w4), (.int (4 : Int32)), (.ref b1)])
  refine W.iastore C V5 (by decide) (by decide) (show 4 < 7 from by decide) g0_b1 at_157 rfl ?_
  intro h6 W6 V6
  have V6 : Arv Z h6 b1 kc_b1 .int (7 : Int32) [(.int w0), (.int w1), (.int w2), (.int w3), (.int w4), (.int (0 : Int32)), (.int (0 : Int32))] (.int (0 : Int32)) := V6
  refine W.aload C at_158 rfl rfl rfl ?_
  refine W.iconst C (x := (5 : Int32)) at_160 rfl rfl ?_
  refine W.iconst C (x := (5 : Int32)) at_161 rfl rfl ?_
  refine W.iloadN C at_162 rfl rfl ?_
  refine W.iconst C (x := (0 : Int32)) at_163 rfl rfl ?_
  refine W.iloadN C at_164 rfl rfl ?_
  refine W.iload C at_165 rfl rfl ?_
  refine W.iload C at_167 rfl rfl ?_
  refine W.iload C at_169 rfl rfl ?_
  refine W.callS C (y := (⟨"com/example/borderline/borderline/TriePathsParentsPinLaw", "firstOf", "(IIIIIII)I"⟩ : MethodName)) (hw _ (List.mem_of_getElem? (i := 2) rfl)) (hw _ (List.mem_of_getElem? (i := 3) rfl)) (hw _ (List.mem_of_getElem? (i := 4) rfl)) (hw _ (List.mem_of_getElem? (i := 5) rfl)) (by decide) (fun hz => rm1 l Z a0 hw [] (5 : Int32) n (0 : Int32) x2 x3 x4 x5 h6 n0 hz) at_171 rfl rfl pd_0 rfl (argsL := [(.int (5 : Int32)), (.int n), (.int (0 : Int32)), (.int x2), (.int x3), (.int x4), (.int x5)]) (rest := [(.int (5 : Int32)), (.ref b1)]) rfl (W := 2) rfl (by decide) (by decide) (by decide) (by decide) (k' := 1) (n' := 7) rfl rfl ?_
  rintro hh5 _ ⟨⟨w5, rfl, e5⟩, rfl⟩
  show W.Go p l e _ _ m _ below meth c _ _ _ _ _ _ (mkF m 174 #[.val (.int p0), .val (.int p1), .val (.int n), .val (.int x2), .val (.int x3), .val (.int x4), .val (.int x5), .val (.ref b1), .unset, .unset] [(.int w5), (.int (5 : Int32)), (.ref b1)])
  refine W.iastore C V6 (by decide) (by decide) (show 5 < 7 from by decide) g0_b1 at_174 rfl ?_
  intro h7 W7 V7
  have V7 : Arv Z h7 b1 kc_b1 .int (7 : Int32) [(.int w0), (.int w1), (.int w2), (.int w3), (.int w4), (.int w5), (.int (0 : Int32))] (.int (0 : Int32)) := V7
  refine W.aload C at_175 rfl rfl rfl ?_
  refine W.bipush C (x := (6 : Int32)) at_177 rfl rfl ?_
  refine W.bipush C (x := (6 : Int32)) at_179 rfl rfl ?_
  refine W.iloadN C at_181 rfl rfl ?_
  refine W.iconst C (x := (0 : Int32)) at_182 rfl rfl ?_
  refine W.iloadN C at_183 rfl rfl ?_
  refine W.iload C at_184 rfl rfl ?_
  refine W.iload C at_186 rfl rfl ?_
  refine W.iload C at_188 rfl rfl ?_
  refine W.callS C (y := (⟨"com/example/borderline/borderline/TriePathsParentsPinLaw", "firstOf", "(IIIIIII)I"⟩ : MethodName)) (hw _ (List.mem_of_getElem? (i := 2) rfl)) (hw _ (List.mem_of_getElem? (i := 3) rfl)) (hw _ (List.mem_of_getElem? (i := 4) rfl)) (hw _ (List.mem_of_getElem? (i := 5) rfl)) (by decide) (fun hz => rm1 l Z a0 hw [] (6 : Int32) n (0 : Int32) x2 x3 x4 x5 h7 n0 hz) at_190 rfl rfl pd_0 rfl (argsL := [(.int (6 : Int32)), (.int n), (.int (0 : Int32)), (.int x2), (.int x3), (.int x4), (.int x5)]) (rest := [(.int (6 : Int32)), (.ref b1)]) rfl (W := 2) rfl (by decide) (by decide) (by decide) (by decide) (k' := 1) (n' := 7) rfl rfl ?_
  rintro hh6 _ ⟨⟨w6, rfl, e6⟩, rfl⟩
  show W.Go p l e _ _ m _ below meth c _ _ _ _ _ _ (mkF m 193 #[.val (.int p0), .val (.int p1), .val (.int n), .val (.int x2), .val (.int x3), .val (.int x4), .val (.int x5), .val (.ref b1), .unset, .unset] [(.int w6), (.int (6 : Int32)), (.ref b1)])
  refine W.iastore C V7 (by decide) (by decide) (show 6 < 7 from by decide) g0_b1 at_193 rfl ?_
  intro h8 W8 V8
  have V8 : Arv Z h8 b1 kc_b1 .int (7 : Int32) [(.int w0), (.int w1), (.int w2), (.int w3), (.int w4), (.int w5), (.int w6)] (.int (0 : Int32)) := V8
  refine W.aload C at_194 rfl rfl rfl ?_
  refine W.iloadN C at_196 rfl rfl ?_
  have lF := own_lF n.toInt x2.toInt x3.toInt x4.toInt x5.toInt rn.1 rn.2 r2 ⟨r3.1, r3.2⟩ ⟨r4.1, r4.2⟩ ⟨r5.1, r5.2⟩
  refine W.callS C (y := (⟨"com/example/borderline/borderline/TriePaths", "parents", "([II)[I"⟩ : MethodName)) (hw _ (List.mem_of_getElem? (i := 6) rfl)) (hw _ (List.mem_of_getElem? (i := 7) rfl)) (hw _ (List.mem_of_getElem? (i := 8) rfl)) (hw _ (List.mem_of_getElem? (i := 9) rfl)) (by decide) (fun hz => rm2 l Z a0 hw [] b1 n kc_b1 [(.int w0), (.int w1), (.int w2), (.int w3), (.int w4), (.int w5), (.int w6)] (own_F n.toInt 0 x2.toInt x3.toInt x4.toInt x5.toInt) (own_P 0 x2.toInt x3.toInt x4.toInt x5.toInt) h8 n0 hz V8 rn.1 rn.2 (own_hg (own_F n.toInt 0 x2.toInt x3.toInt x4.toInt x5.toInt) w0 w1 w2 w3 w4 w5 w6 e0 e1 e2 e3 e4 e5 e6) lF.1 lF.2.1 lF.2.2.1 lF.2.2.2) at_197 rfl rfl pd_1 rfl (argsL := [(.ref b1), (.int n)]) (rest := []) rfl (W := 0) rfl (by decide) (by decide) (by decide) (by decide) (k' := 2) (n' := 13) rfl rfl ?_
  rintro hp _ ⟨bp, kp, rfl, gp, Kp, Vp⟩
  show W.Go p l e _ _ m _ below meth c _ _ _ _ _ _ (mkF m 200 #[.val (.int p0), .val (.int p1), .val (.int n), .val (.int x2), .val (.int x3), .val (.int x4), .val (.int x5), .val (.ref b1), .unset, .unset] [(.ref bp)])
  refine W.astore C (Ls' := #[.val (.int p0), .val (.int p1), .val (.int n), .val (.int x2), .val (.int x3), .val (.int x4), .val (.int x5), .val (.ref b1), .val (.ref bp), .unset]) at_200 rfl rfl rfl ?_
  refine W.aload C at_202 rfl rfl rfl ?_
  refine W.arraylength C Vp at_204 rfl ?_
  refine W.iloadN C at_205 rfl rfl ?_
  refine W.icmp C (pc' := 211) (pn := 209) at_206 (by decide) rfl rfl (W.q_eq n n) (fun hc206 => ?_) (fun hc206 => ?_)
  rotate_left
  · exact absurd rfl hc206
  refine W.aload C at_211 rfl rfl rfl ?_
  refine W.iconst C (x := (0 : Int32)) at_213 rfl rfl ?_
  have v0 := own_vget (own_P 0 x2.toInt x3.toInt x4.toInt x5.toInt) n.toInt.toNat n.toInt 0 (by omega) (.int 0)
  refine W.iaload C (v := (.int (-1 : Int32))) Vp (by decide) (by simp only [Int32.reduceToInt]; omega) v0 at_214 rfl ?_
  refine W.iconst C (x := (-1 : Int32)) at_215 rfl rfl ?_
  refine W.icmp C (pc' := 223) (pn := 219) at_216 (by decide) rfl rfl (W.q_ne (-1 : Int32) (-1 : Int32)) (fun hc216 => ?_) (fun hc216 => ?_)
  · exact absurd rfl hc216
  refine W.iconst C (x := (1 : Int32)) at_219 rfl rfl ?_
  refine W.goto C (pc' := 224) at_220 (by decide) rfl ?_
  refine W.istore C (Ls' := #[.val (.int p0), .val (.int p1), .val (.int n), .val (.int x2), .val (.int x3), .val (.int x4), .val (.int x5), .val (.ref b1), .val (.ref bp), .val (.int (1 : Int32))]) at_224 rfl rfl ?_
  refine W.iloadN C at_226 rfl rfl ?_
  refine W.iconst C (x := (1 : Int32)) at_227 rfl rfl ?_
  refine W.icmp C (pc' := 250) (pn := 231) at_228 (by decide) rfl rfl (W.q_le n (1 : Int32)) (fun hc228 => ?_) (fun hc228 => ?_)
  · refine W.iloadN C at_250 rfl rfl ?_
    refine W.iconst C (x := (2 : Int32)) at_251 rfl rfl ?_
    refine W.icmp C (pc' := 275) (pn := 255) at_252 (by decide) rfl rfl (W.q_le n (2 : Int32)) (fun hc252 => ?_) (fun hc252 => ?_)
    rotate_left
    · exfalso
      simp only [Int32.reduceToInt] at hc228 hc252
      omega
    refine W.iloadN C at_275 rfl rfl ?_
    refine W.iconst C (x := (3 : Int32)) at_276 rfl rfl ?_
    refine W.icmp C (pc' := 301) (pn := 280) at_277 (by decide) rfl rfl (W.q_le n (3 : Int32)) (fun hc277 => ?_) (fun hc277 => ?_)
    rotate_left
    · exfalso
      simp only [Int32.reduceToInt] at hc228 hc252 hc277
      omega
    refine W.iloadN C at_301 rfl rfl ?_
    refine W.iconst C (x := (4 : Int32)) at_302 rfl rfl ?_
    refine W.icmp C (pc' := 327) (pn := 306) at_303 (by decide) rfl rfl (W.q_le n (4 : Int32)) (fun hc303 => ?_) (fun hc303 => ?_)
    rotate_left
    · exfalso
      simp only [Int32.reduceToInt] at hc228 hc252 hc277 hc303
      omega
    refine W.iloadN C at_327 rfl rfl ?_
    refine W.iconst C (x := (5 : Int32)) at_328 rfl rfl ?_
    refine W.icmp C (pc' := 353) (pn := 332) at_329 (by decide) rfl rfl (W.q_le n (5 : Int32)) (fun hc329 => ?_) (fun hc329 => ?_)
    rotate_left
    · exfalso
      simp only [Int32.reduceToInt] at hc228 hc252 hc277 hc303 hc329
      omega
    refine W.iload C at_353 rfl rfl ?_
    refine W.retZ C (w := (1 : Int32)) (by simp) at_355 (by decide) (by decide) (by decide) (fun _ _ _ _ q => q) ?_
    rfl
  · refine W.iload C at_231 rfl rfl ?_
    refine W.ifc C (pc' := 247) (pn := 236) at_233 (by decide) rfl rfl (W.q_eq (1 : Int32) (0 : Int32)) (fun hc233 => ?_) (fun hc233 => ?_)
    · exact absurd hc233 (by decide)
    refine W.aload C at_236 rfl rfl rfl ?_
    refine W.iconst C (x := (1 : Int32)) at_238 rfl rfl ?_
    simp only [Int32.reduceToInt] at hc228
    have v1 := own_vget (own_P 0 x2.toInt x3.toInt x4.toInt x5.toInt) n.toInt.toNat n.toInt 1 (by omega) (.int 0)
    rw [if_neg (by decide), if_pos (by omega)] at v1
    have v1' : (own_vs (own_P 0 x2.toInt x3.toInt x4.toInt x5.toInt) n.toInt.toNat n.toInt).getD (1 : Int32).toInt.toNat (.int 0) = .int (0 : Int32) := v1.trans (congrArg Value.int (rfl))
    refine W.iaload C (v := (.int (0 : Int32))) Vp (by decide) (by simp only [Int32.reduceToInt]; omega) v1' at_239 rfl ?_
    refine W.ifc C (pc' := 247) (pn := 243) at_240 (by decide) rfl rfl (W.q_ne (0 : Int32) (0 : Int32)) (fun hc240 => ?_) (fun hc240 => ?_)
    · exact absurd rfl hc240
    refine W.iconst C (x := (1 : Int32)) at_243 rfl rfl ?_
    refine W.goto C (pc' := 248) at_244 (by decide) rfl ?_
    refine W.istore C (Ls' := #[.val (.int p0), .val (.int p1), .val (.int n), .val (.int x2), .val (.int x3), .val (.int x4), .val (.int x5), .val (.ref b1), .val (.ref bp), .val (.int (1 : Int32))]) at_248 rfl rfl ?_
    refine W.iloadN C at_250 rfl rfl ?_
    refine W.iconst C (x := (2 : Int32)) at_251 rfl rfl ?_
    refine W.icmp C (pc' := 275) (pn := 255) at_252 (by decide) rfl rfl (W.q_le n (2 : Int32)) (fun hc252 => ?_) (fun hc252 => ?_)
    · refine W.iloadN C at_275 rfl rfl ?_
      refine W.iconst C (x := (3 : Int32)) at_276 rfl rfl ?_
      refine W.icmp C (pc' := 301) (pn := 280) at_277 (by decide) rfl rfl (W.q_le n (3 : Int32)) (fun hc277 => ?_) (fun hc277 => ?_)
      rotate_left
      · exfalso
        simp only [Int32.reduceToInt] at hc228 hc252 hc277
        omega
      refine W.iloadN C at_301 rfl rfl ?_
      refine W.iconst C (x := (4 : Int32)) at_302 rfl rfl ?_
      refine W.icmp C (pc' := 327) (pn := 306) at_303 (by decide) rfl rfl (W.q_le n (4 : Int32)) (fun hc303 => ?_) (fun hc303 => ?_)
      rotate_left
      · exfalso
        simp only [Int32.reduceToInt] at hc228 hc252 hc277 hc303
        omega
      refine W.iloadN C at_327 rfl rfl ?_
      refine W.iconst C (x := (5 : Int32)) at_328 rfl rfl ?_
      refine W.icmp C (pc' := 353) (pn := 332) at_329 (by decide) rfl rfl (W.q_le n (5 : Int32)) (fun hc329 => ?_) (fun hc329 => ?_)
      rotate_left
      · exfalso
        simp only [Int32.reduceToInt] at hc228 hc252 hc277 hc303 hc329
        omega
      refine W.iload C at_353 rfl rfl ?_
      refine W.retZ C (w := (1 : Int32)) (by simp) at_355 (by decide) (by decide) (by decide) (fun _ _ _ _ q => q) ?_
      rfl
    · refine W.iload C at_255 rfl rfl ?_
      refine W.ifc C (pc' := 272) (pn := 260) at_257 (by decide) rfl rfl (W.q_eq (1 : Int32) (0 : Int32)) (fun hc257 => ?_) (fun hc257 => ?_)
      · exact absurd hc257 (by decide)
      refine W.aload C at_260 rfl rfl rfl ?_
      refine W.iconst C (x := (2 : Int32)) at_262 rfl rfl ?_
      simp only [Int32.reduceToInt] at hc252
      have v2 := own_vget (own_P 0 x2.toInt x3.toInt x4.toInt x5.toInt) n.toInt.toNat n.toInt 2 (by omega) (.int 0)
      rw [if_neg (by decide), if_pos (by omega)] at v2
      have v2' : (own_vs (own_P 0 x2.toInt x3.toInt x4.toInt x5.toInt) n.toInt.toNat n.toInt).getD (2 : Int32).toInt.toNat (.int 0) = .int x2 := v2.trans (congrArg Value.int (Int32.ofInt_toInt x2))
      refine W.iaload C (v := (.int x2)) Vp (by decide) (by simp only [Int32.reduceToInt]; omega) v2' at_263 rfl ?_
      refine W.iloadN C at_264 rfl rfl ?_
      refine W.icmp C (pc' := 272) (pn := 268) at_265 (by decide) rfl rfl (W.q_ne x2 x2) (fun hc265 => ?_) (fun hc265 => ?_)
      · exact absurd rfl hc265
      refine W.iconst C (x := (1 : Int32)) at_268 rfl rfl ?_
      refine W.goto C (pc' := 273) at_269 (by decide) rfl ?_
      refine W.istore C (Ls' := #[.val (.int p0), .val (.int p1), .val (.int n), .val (.int x2), .val (.int x3), .val (.int x4), .val (.int x5), .val (.ref b1), .val (.ref bp), .val (.int (1 : Int32))]) at_273 rfl rfl ?_
      refine W.iloadN C at_275 rfl rfl ?_
      refine W.iconst C (x := (3 : Int32)) at_276 rfl rfl ?_
      refine W.icmp C (pc' := 301) (pn := 280) at_277 (by decide) rfl rfl (W.q_le n (3 : Int32)) (fun hc277 => ?_) (fun hc277 => ?_)
      · refine W.iloadN C at_301 rfl rfl ?_
        refine W.iconst C (x := (4 : Int32)) at_302 rfl rfl ?_
        refine W.icmp C (pc' := 327) (pn := 306) at_303 (by decide) rfl rfl (W.q_le n (4 : Int32)) (fun hc303 => ?_) (fun hc303 => ?_)
        rotate_left
        · exfalso
          simp only [Int32.reduceToInt] at hc228 hc252 hc277 hc303
          omega
        refine W.iloadN C at_327 rfl rfl ?_
        refine W.iconst C (x := (5 : Int32)) at_328 rfl rfl ?_
        refine W.icmp C (pc' := 353) (pn := 332) at_329 (by decide) rfl rfl (W.q_le n (5 : Int32)) (fun hc329 => ?_) (fun hc329 => ?_)
        rotate_left
        · exfalso
          simp only [Int32.reduceToInt] at hc228 hc252 hc277 hc303 hc329
          omega
        refine W.iload C at_353 rfl rfl ?_
        refine W.retZ C (w := (1 : Int32)) (by simp) at_355 (by decide) (by decide) (by decide) (fun _ _ _ _ q => q) ?_
        rfl
      · refine W.iload C at_280 rfl rfl ?_
        refine W.ifc C (pc' := 298) (pn := 285) at_282 (by decide) rfl rfl (W.q_eq (1 : Int32) (0 : Int32)) (fun hc282 => ?_) (fun hc282 => ?_)
        · exact absurd hc282 (by decide)
        refine W.aload C at_285 rfl rfl rfl ?_
        refine W.iconst C (x := (3 : Int32)) at_287 rfl rfl ?_
        simp only [Int32.reduceToInt] at hc277
        have v3 := own_vget (own_P 0 x2.toInt x3.toInt x4.toInt x5.toInt) n.toInt.toNat n.toInt 3 (by omega) (.int 0)
        rw [if_neg (by decide), if_pos (by omega)] at v3
        have v3' : (own_vs (own_P 0 x2.toInt x3.toInt x4.toInt x5.toInt) n.toInt.toNat n.toInt).getD (3 : Int32).toInt.toNat (.int 0) = .int x3 := v3.trans (congrArg Value.int (Int32.ofInt_toInt x3))
        refine W.iaload C (v := (.int x3)) Vp (by decide) (by simp only [Int32.reduceToInt]; omega) v3' at_288 rfl ?_
        refine W.iload C at_289 rfl rfl ?_
        refine W.icmp C (pc' := 298) (pn := 294) at_291 (by decide) rfl rfl (W.q_ne x3 x3) (fun hc291 => ?_) (fun hc291 => ?_)
        · exact absurd rfl hc291
        refine W.iconst C (x := (1 : Int32)) at_294 rfl rfl ?_
        refine W.goto C (pc' := 299) at_295 (by decide) rfl ?_
        refine W.istore C (Ls' := #[.val (.int p0), .val (.int p1), .val (.int n), .val (.int x2), .val (.int x3), .val (.int x4), .val (.int x5), .val (.ref b1), .val (.ref bp), .val (.int (1 : Int32))]) at_299 rfl rfl ?_
        refine W.iloadN C at_301 rfl rfl ?_
        refine W.iconst C (x := (4 : Int32)) at_302 rfl rfl ?_
        refine W.icmp C (pc' := 327) (pn := 306) at_303 (by decide) rfl rfl (W.q_le n (4 : Int32)) (fun hc303 => ?_) (fun hc303 => ?_)
        · refine W.iloadN C at_327 rfl rfl ?_
          refine W.iconst C (x := (5 : Int32)) at_328 rfl rfl ?_
          refine W.icmp C (pc' := 353) (pn := 332) at_329 (by decide) rfl rfl (W.q_le n (5 : Int32)) (fun hc329 => ?_) (fun hc329 => ?_)
          rotate_left
          · exfalso
            simp only [Int32.reduceToInt] at hc228 hc252 hc277 hc303 hc329
            omega
          refine W.iload C at_353 rfl rfl ?_
          refine W.retZ C (w := (1 : Int32)) (by simp) at_355 (by decide) (by decide) (by decide) (fun _ _ _ _ q => q) ?_
          rfl
        · refine W.iload C at_306 rfl rfl ?_
          refine W.ifc C (pc' := 324) (pn := 311) at_308 (by decide) rfl rfl (W.q_eq (1 : Int32) (0 : Int32)) (fun hc308 => ?_) (fun hc308 => ?_)
          · exact absurd hc308 (by decide)
          refine W.aload C at_311 rfl rfl rfl ?_
          refine W.iconst C (x := (4 : Int32)) at_313 rfl rfl ?_
          simp only [Int32.reduceToInt] at hc303
          have v4 := own_vget (own_P 0 x2.toInt x3.toInt x4.toInt x5.toInt) n.toInt.toNat n.toInt 4 (by omega) (.int 0)
          rw [if_neg (by decide), if_pos (by omega)] at v4
          have v4' : (own_vs (own_P 0 x2.toInt x3.toInt x4.toInt x5.toInt) n.toInt.toNat n.toInt).getD (4 : Int32).toInt.toNat (.int 0) = .int x4 := v4.trans (congrArg Value.int (Int32.ofInt_toInt x4))
          refine W.iaload C (v := (.int x4)) Vp (by decide) (by simp only [Int32.reduceToInt]; omega) v4' at_314 rfl ?_
          refine W.iload C at_315 rfl rfl ?_
          refine W.icmp C (pc' := 324) (pn := 320) at_317 (by decide) rfl rfl (W.q_ne x4 x4) (fun hc317 => ?_) (fun hc317 => ?_)
          · exact absurd rfl hc317
          refine W.iconst C (x := (1 : Int32)) at_320 rfl rfl ?_
          refine W.goto C (pc' := 325) at_321 (by decide) rfl ?_
          refine W.istore C (Ls' := #[.val (.int p0), .val (.int p1), .val (.int n), .val (.int x2), .val (.int x3), .val (.int x4), .val (.int x5), .val (.ref b1), .val (.ref bp), .val (.int (1 : Int32))]) at_325 rfl rfl ?_
          refine W.iloadN C at_327 rfl rfl ?_
          refine W.iconst C (x := (5 : Int32)) at_328 rfl rfl ?_
          refine W.icmp C (pc' := 353) (pn := 332) at_329 (by decide) rfl rfl (W.q_le n (5 : Int32)) (fun hc329 => ?_) (fun hc329 => ?_)
          · refine W.iload C at_353 rfl rfl ?_
            refine W.retZ C (w := (1 : Int32)) (by simp) at_355 (by decide) (by decide) (by decide) (fun _ _ _ _ q => q) ?_
            rfl
          · refine W.iload C at_332 rfl rfl ?_
            refine W.ifc C (pc' := 350) (pn := 337) at_334 (by decide) rfl rfl (W.q_eq (1 : Int32) (0 : Int32)) (fun hc334 => ?_) (fun hc334 => ?_)
            · exact absurd hc334 (by decide)
            refine W.aload C at_337 rfl rfl rfl ?_
            refine W.iconst C (x := (5 : Int32)) at_339 rfl rfl ?_
            simp only [Int32.reduceToInt] at hc329
            have v5 := own_vget (own_P 0 x2.toInt x3.toInt x4.toInt x5.toInt) n.toInt.toNat n.toInt 5 (by omega) (.int 0)
            rw [if_neg (by decide), if_pos (by omega)] at v5
            have v5' : (own_vs (own_P 0 x2.toInt x3.toInt x4.toInt x5.toInt) n.toInt.toNat n.toInt).getD (5 : Int32).toInt.toNat (.int 0) = .int x5 := v5.trans (congrArg Value.int (Int32.ofInt_toInt x5))
            refine W.iaload C (v := (.int x5)) Vp (by decide) (by simp only [Int32.reduceToInt]; omega) v5' at_340 rfl ?_
            refine W.iload C at_341 rfl rfl ?_
            refine W.icmp C (pc' := 350) (pn := 346) at_343 (by decide) rfl rfl (W.q_ne x5 x5) (fun hc343 => ?_) (fun hc343 => ?_)
            · exact absurd rfl hc343
            refine W.iconst C (x := (1 : Int32)) at_346 rfl rfl ?_
            refine W.goto C (pc' := 351) at_347 (by decide) rfl ?_
            refine W.istore C (Ls' := #[.val (.int p0), .val (.int p1), .val (.int n), .val (.int x2), .val (.int x3), .val (.int x4), .val (.int x5), .val (.ref b1), .val (.ref bp), .val (.int (1 : Int32))]) at_351 rfl rfl ?_
            refine W.iload C at_353 rfl rfl ?_
            refine W.retZ C (w := (1 : Int32)) (by simp) at_355 (by decide) (by decide) (by decide) (fun _ _ _ _ q => q) ?_
            rfl
set_option maxRecDepth 65536 in
set_option maxHeartbeats 40000000 in
theorem comes_1 {Post : Tables → Env → Array Value → State → Outcome → State → Prop} (hpost : ∀ tb e args s v u, (limb_1_1.after args s (.returned v) u = true ∧ limb_1_2.after args s (.returned v) u = true ∧ True) → FrameEnd s (.returned v) u (Jvm.fieldLocs frame_1_writes args s ++ Jvm.arrayLocs frame_1_arrays args s ++ Jvm.staticLocs frame_1_statics s) 16 128 → Post tb e args s (.returned v) u) :
    ArmFor flags0 classFile x code maxLocals ret World_1 tables_1 room_1 Calls_1 rest_1 Pre_1 Post := by
  intro l hfl _ _ p e ha hc hk s m args below hf hA hF happ hP
  obtain ⟨hcalls, hrest, hpre⟩ := hP
  obtain ⟨-, -, -, hnamed, -, -, -, hat⟩ := (Spec.applies_iff hf).mp happ
  obtain ⟨hg, hn⟩ := and_e (Cond.before_iff.mp (show (Jvm.Cond.and given_1 narrow_1).before args s = true from hpre))
  obtain ⟨gv1, gv2⟩ := and_e hg
  obtain ⟨gv3, gv4⟩ := and_e gv2
  obtain ⟨w0, w1, rfl⟩ : ∃ w0 w1 : Value, args = #[w0, w1] := by
    have hs : args.size = 2 := by simpa [Cond.value, given_1] using gv1
    obtain ⟨L⟩ := args
    match L, hs with
    | [w0, w1], _ => exact ⟨w0, w1, rfl⟩
  have hw := fun d (hd : d ∈ tables_1) => atoms_spec (ws := Jvm.Cond.code x code maxLocals ret :: tables_1) hat d (List.mem_cons_of_mem _ hd)
  have hfit : Fit s := fun {y c} hc i hi => by
    obtain ⟨ha, rfl⟩ := Array.getElem?_eq_some_iff.mp hc
    have q := List.all_eq_true.mp ((Array.all_eq_true_iff_forall_mem.mp hF) _ (Array.getElem_mem ha)) i (List.mem_range.mpr hi)
    simpa [Array.getElem?_eq_getElem hi] using q
  obtain ⟨i0, ei0⟩ := is_v gv3
  obtain rfl : w0 = (.int i0) := Option.some.inj ei0
  obtain ⟨i1, ei1⟩ := is_v gv4
  obtain rfl : w1 = (.int i1) := Option.some.inj ei1
  obtain ⟨n, o, h1, h2, h3, v, L, rfl, ⟨hGv, N⟩, hq⟩ := rm0 l s _ hw tables_1 i0 i1 s.heap s.heap.size (Nat.le_refl _)  p e ha hc hk s m _ below hf ((Spec.applies_iff_loose hf).mp happ).1 ⟨rfl, State.Warmed39.refl s, rfl⟩ trivial
  obtain rfl : v = some (.int 1) := hGv
  refine ⟨n, _, h1, h2, h3, hpost _ _ _ _ _ _ ⟨Cond.after_iff.mpr rfl, Cond.after_iff.mpr (eq_i res_at (Term.int_eval (1)) rfl), trivial⟩ ⟨hq.1, hq.2.1, (hq.2.2.sift fun y hy => Or.inr (N y hy)).mono (by decide) (by decide)⟩⟩
theorem main_1_1 : Claimed_1_1 := comes_1 fun _ _ _ _ _ _ h hF => ⟨h.1, hF⟩
theorem main_1_2 : Claimed_1_2 := comes_1 fun _ _ _ _ _ _ h hF => ⟨h.2.1, hF⟩
end Jvm.Pilot.@@N@@
namespace Jvm.Pilot.@@N@@
open Jvm Jvm.ClassFile Sem Op Lib Jvm.Free Jvm.Stand Jvm.Pilot.@@N@@.Jvm.D
/-! MADE BY PROGRAM (witnessworld.py) out of the Statement's table words and the real class files: 9 classes; the members and pool entries that the words name. The judged class is class 1, her method 1. -/
namespace start1
open Jvm.ClassFile
def u (s : String) : CpInfo := .utf8 (stringToUtf16 s)
/-- a pool by its gaps: so many unusable entries, then the entry; so many at the end -/
def gap : Nat → List CpInfo → List CpInfo
  | 0, r => r
  | n + 1, r => .unusable :: gap n r
def poolList (es : List (Nat × CpInfo)) (last : Nat) : List CpInfo := es.foldr (fun e r => gap e.1 (e.2 :: r)) (gap last [])
def pool (es : List (Nat × CpInfo)) (last : Nat) : Array CpInfo := ⟨poolList es last⟩
def fileOf (pool : Array CpInfo) (this : Nat) (attrs : Array Attribute := #[]) (ms : Array MethodInfo := #[]) (fl : Nat := 33) (sup : Nat := 0) (ifs : Array Nat := #[]) (fds : Array FieldInfo := #[]) : ClassFile where
  minorVersion := 0
  majorVersion := 65
  constantPool := pool
  accessFlags := fl
  thisClass := this
  superClass := sup
  interfaces := ifs
  fields := fds
  methods := ms
  attributes := attrs
def plain (name : String) (sup : Option ClassId) : Class where
  name := name
  kind := .ordinary
  loader := none
  accessFlags := 33
  super := sup
  interfaces := #[]
  cf := none
  fields := #[]
  methods := #[]
  instanceTypes := #[]
  staticTypes := #[]
  resolved := #[]
  callSites := []
  init := .initialized
  statics := none
  mirror := none

def pool0 : Array CpInfo := pool [(5, u "<init>"), (0, u "()V"), (1, .class_ 10), (1, u "java/lang/Object")] 113

def k0m0 : Method := { name := "<init>", desc := "()V", sig := { parameters := [], returnType := none }, accessFlags := 1, code := none }
/-- java/lang/Object -/
def k0 : Class := { plain "java/lang/Object" none with
  accessFlags := 33
  interfaces := #[]
  cf := some (fileOf pool0 8 #[] #[{ accessFlags := 1, nameIndex := 5, descriptorIndex := 6, attributes := #[] }] 33 0 #[] #[])
  fields := #[]
  methods := #[k0m0]
  instanceTypes := #[]
  staticTypes := #[]
  resolved := Array.replicate 124 none
  statics := none }

def pool1 : Array CpInfo := pool [(2, .class_ 4), (1, u "java/lang/Object"), (0, u "<init>"), (0, u "()V"), (0, .integer 2147483647), (0, .methodref 9 10), (0, .class_ 11), (0, .nameAndType 12 13), (0, u "com/example/borderline/borderline/TriePathsParentsPinLaw"), (0, u "firstOf"), (0, u "(IIIIIII)I"), (0, .methodref 15 16), (0, .class_ 17), (0, .nameAndType 18 19), (0, u "com/example/borderline/borderline/TriePaths"), (0, u "parents"), (0, u "([II)[I"), (2, u "law"), (0, u "(II)Z")] 5

def k1m0 : Method := { name := "<init>", desc := "()V", sig := { parameters := [], returnType := none }, accessFlags := 1, code := none }
def k1c1 : Code := { maxStack := 9, maxLocals := 10, code := code, exceptionTable := #[], attributes := #[] }
def k1m1 : Method := { name := "law", desc := "(II)Z", sig := { parameters := [.int, .int], returnType := some .boolean }, accessFlags := 9, code := some k1c1 }
def k1c2 : Code := { maxStack := 2, maxLocals := 8, code := method_3_code, exceptionTable := #[], attributes := #[] }
def k1m2 : Method := { name := "firstOf", desc := "(IIIIIII)I", sig := { parameters := [.int, .int, .int, .int, .int, .int, .int], returnType := some .int }, accessFlags := 10, code := some k1c2 }
/-- com/example/borderline/borderline/TriePathsParentsPinLaw -/
def k1 : Class := { plain "com/example/borderline/borderline/TriePathsParentsPinLaw" (some 0) with
  accessFlags := 49
  interfaces := #[]
  cf := some (fileOf pool1 9 #[] #[{ accessFlags := 1, nameIndex := 5, descriptorIndex := 6, attributes := #[] }, { accessFlags := 9, nameIndex := 22, descriptorIndex := 23, attributes := #[] }, { accessFlags := 10, nameIndex := 12, descriptorIndex := 13, attributes := #[] }] 49 2 #[] #[])
  fields := #[]
  methods := #[k1m0, k1m1, k1m2]
  instanceTypes := #[]
  staticTypes := #[]
  resolved := Array.replicate 29 none
  statics := none }

def pool2 : Array CpInfo := pool [(4, .class_ 6), (1, u "java/lang/Object"), (0, u "<init>"), (0, u "()V"), (0, .class_ 10), (0, u "com/example/borderline/borderline/TriePaths"), (19, u "LONGEST_CHARACTER"), (0, u "I"), (2, u "ROOT"), (3, u "parents"), (0, u "([II)[I")] 9

def k2m0 : Method := { name := "<init>", desc := "()V", sig := { parameters := [], returnType := none }, accessFlags := 2, code := none }
def k2c1 : Code := { maxStack := 4, maxLocals := 5, code := prog_22_method_2_code, exceptionTable := #[], attributes := #[] }
def k2m1 : Method := { name := "parents", desc := "([II)[I", sig := { parameters := [(.array .int), .int], returnType := some (.array .int) }, accessFlags := 8, code := some k2c1 }
/-- com/example/borderline/borderline/TriePaths -/
def k2 : Class := { plain "com/example/borderline/borderline/TriePaths" (some 0) with
  accessFlags := 48
  interfaces := #[]
  cf := some (fileOf pool2 9 #[] #[{ accessFlags := 2, nameIndex := 7, descriptorIndex := 8, attributes := #[] }, { accessFlags := 8, nameIndex := 38, descriptorIndex := 39, attributes := #[] }] 48 4 #[] #[{ accessFlags := 24, nameIndex := 30, descriptorIndex := 31, attributes := #[] }, { accessFlags := 26, nameIndex := 34, descriptorIndex := 31, attributes := #[] }])
  fields := #[{ name := "LONGEST_CHARACTER", type := .int, accessFlags := 24, slot := 0, constantValue := 0 }, { name := "ROOT", type := .int, accessFlags := 26, slot := 1, constantValue := 0 }]
  methods := #[k2m0, k2m1]
  instanceTypes := #[]
  staticTypes := #[.int, .int]
  resolved := Array.replicate 49 none
  statics := none }

def pool3 : Array CpInfo := pool [(1, u "java/lang/Cloneable"), (0, .class_ 1), (0, u "java/lang/Object"), (0, .class_ 3)] 3

/-- java/lang/Cloneable -/
def k3 : Class := { plain "java/lang/Cloneable" (some 0) with
  accessFlags := 1537
  interfaces := #[]
  cf := some (fileOf pool3 2 #[] #[] 1537 4 #[] #[])
  fields := #[]
  methods := #[]
  instanceTypes := #[]
  staticTypes := #[]
  resolved := Array.replicate 8 none
  statics := none }

def pool4 : Array CpInfo := pool [(1, u "java/io/Serializable"), (0, .class_ 1), (0, u "java/lang/Object"), (0, .class_ 3)] 3

/-- java/io/Serializable -/
def k4 : Class := { plain "java/io/Serializable" (some 0) with
  accessFlags := 1537
  interfaces := #[]
  cf := some (fileOf pool4 2 #[] #[] 1537 4 #[] #[])
  fields := #[]
  methods := #[]
  instanceTypes := #[]
  staticTypes := #[]
  resolved := Array.replicate 8 none
  statics := none }

/-- the primitive byte -/
def k5 : Class := { plain "byte" none with kind := .primitive 'B', accessFlags := 0x411 }
/-- [B -/
def k6 : Class := { plain "[B" (some 0) with kind := .array 5 .byte, interfaces := #[3, 4], accessFlags := 1041 }

/-- the primitive int -/
def k7 : Class := { plain "int" none with kind := .primitive 'I', accessFlags := 0x411 }
/-- [I -/
def k8 : Class := { plain "[I" (some 0) with kind := .array 7 .int, interfaces := #[3, 4], accessFlags := 1041 }

def heap : Heap := #[]
def classes : Array Class := #[k0, k1, k2, k3, k4, k5, k6, k7, k8]
def interned : List (Array UInt16 × Addr) := []
def slotsUsed : Nat := 0
def theMethod : MethodId := ⟨1, 1⟩
def args0 : Array Value := #[.int 5, .int 6]
def aboutOver (below : List Frame) : State where
  vm := { classes := classes, interned := interned.toArray }
  heap := heap
  slotsUsed := slotsUsed
  threads := #[{ frames := .invoking theMethod args0 :: below }]
def below0 : List Frame := [.native { method := ⟨0, 0⟩, args := #[] }]
def about1 : State := aboutOver below0
def p0 : Program := .bare "" "" ""
def e0 : Env := launch0.env 0 0 0
theorem w_frames : about1.frames = Frame.invoking theMethod args0 :: below0 := rfl
set_option maxRecDepth 65536 in
theorem w_args : argsFit about1.vm theMethod args0 = true := by decide +kernel
set_option maxRecDepth 65536 in
theorem w_heap : heapFits about1 = true := by decide +kernel
set_option maxRecDepth 65536 in
theorem w_runnable : about1.curStatus? = some .runnable := by decide +kernel
set_option maxRecDepth 65536 in
theorem w_alone : about1.alone = true := by decide +kernel
set_option maxRecDepth 65536 in
theorem w_named : about1.methodNamed? x = some theMethod := by decide +kernel
set_option maxRecDepth 65536 in
theorem w_hears : about1.hears theMethod below0 = true := by decide +kernel
set_option maxRecDepth 65536 in
theorem w_ripe : about1.ripe theMethod args0 below0 = true := by decide +kernel
theorem w_running : about1.status = .running := rfl
set_option maxRecDepth 65536 in
theorem w_room : about1.hasRoom e0.platform room_1 = true :=
  launch0.hasRoom_least _ room_1 (by decide +kernel) (by decide +kernel) (by decide +kernel) (by decide +kernel) (by decide +kernel) (by decide +kernel)
theorem allAtoms_all (ts : List Jvm.Cond) (a : Array Jvm.Value) (st : Jvm.State) : (allAtoms ts).before a st = ts.all (fun c => c.before a st) := by
  induction ts with
  | nil => rfl
  | cons c t ih =>
    show (Jvm.Cond.and c (allAtoms t)).before a st = _
    rw [Jvm.Cond.before_and, ih, List.all_cons]
def words1 : List Jvm.Cond := Jvm.Cond.code x code maxLocals ret :: tables_1
/-- a 'code' word, met by the world's own term for the bytes: nothing is compared byte by byte -/
theorem code_word {y : MethodName} {bytes : ByteArray} {mx : Nat} {rt : Option FieldType} {a : Array Value} {s : State} {m : MethodId} {meth : Method} {c : Code} (h1 : s.methodNamed? y = some m) (h2 : s.vm.method? m = some meth) (h3 : meth.code = some c) (h4 : c.code = bytes)
    (h5 : (c.maxLocals == mx && c.exceptionTable.isEmpty && decide (c.maxStack ≤ mostOperands) && decide (meth.sig.returnType = rt) && !meth.locks && decide (parseMethodDescriptor y.desc = some meth.sig)) = true) : (Jvm.Cond.code y bytes mx rt).before a s = true := by
  simp only [Bool.and_eq_true, beq_iff_eq, Bool.not_eq_true', decide_eq_true_eq] at h5
  obtain ⟨⟨⟨⟨⟨g1, g2⟩, g3⟩, g4⟩, g5⟩, g6⟩ := h5
  simp [Cond.before, Cond.holds, Cond.value, h1, h2, h3, h4, g1, g2, g3, g4, g5, g6]
def isCode : Jvm.Cond → Bool
  | .code _ _ _ _ => true
  | _ => false
theorem all_split {L : List Jvm.Cond} {P : Jvm.Cond → Bool} (h1 : L.all (fun c => isCode c || P c) = true) (h2 : ∀ c ∈ L.filter isCode, P c = true) : L.all P = true := by
  refine List.all_eq_true.mpr fun c hc => ?_
  have h := List.all_eq_true.mp h1 c hc
  rcases Bool.eq_false_or_eq_true (isCode c) with hi | hi
  · exact h2 c (List.mem_filter.mpr ⟨hc, hi⟩)
  · simpa [hi] using h
set_option maxRecDepth 65536 in
theorem w_c0 : (Jvm.Cond.code x code maxLocals ret).before args0 about1 = true := code_word (m := ⟨1, 1⟩) (meth := k1m1) (c := k1c1) (by decide +kernel) rfl rfl rfl (by decide +kernel)
set_option maxRecDepth 65536 in
theorem w_c1 : (Jvm.Cond.code ({ cls := "com/example/borderline/borderline/TriePathsParentsPinLaw", name := "firstOf", desc := "(IIIIIII)I" } : Jvm.MethodName) method_3_code (8 : Nat) (Option.some Jvm.ClassFile.FieldType.int)).before args0 about1 = true := code_word (m := ⟨1, 2⟩) (meth := k1m2) (c := k1c2) (by decide +kernel) rfl rfl rfl (by decide +kernel)
set_option maxRecDepth 65536 in
theorem w_c2 : (Jvm.Cond.code ({ cls := "com/example/borderline/borderline/TriePaths", name := "parents", desc := "([II)[I" } : Jvm.MethodName) prog_22_method_2_code (5 : Nat) (Option.some (Jvm.ClassFile.FieldType.array Jvm.ClassFile.FieldType.int))).before args0 about1 = true := code_word (m := ⟨2, 1⟩) (meth := k2m1) (c := k2c1) (by decide +kernel) rfl rfl rfl (by decide +kernel)
def codes1 : List Jvm.Cond := [Jvm.Cond.code x code maxLocals ret, Jvm.Cond.code ({ cls := "com/example/borderline/borderline/TriePathsParentsPinLaw", name := "firstOf", desc := "(IIIIIII)I" } : Jvm.MethodName) method_3_code (8 : Nat) (Option.some Jvm.ClassFile.FieldType.int), Jvm.Cond.code ({ cls := "com/example/borderline/borderline/TriePaths", name := "parents", desc := "([II)[I" } : Jvm.MethodName) prog_22_method_2_code (5 : Nat) (Option.some (Jvm.ClassFile.FieldType.array Jvm.ClassFile.FieldType.int))]
set_option maxRecDepth 65536 in
theorem codes_eq : words1.filter isCode = codes1 := rfl
theorem w_codes : ∀ c ∈ words1.filter isCode, c.before args0 about1 = true := by
  rw [codes_eq]
  intro c hc
  simp only [codes1, List.mem_cons, List.not_mem_nil, or_false] at hc
  rcases hc with rfl | rfl | rfl
  · exact w_c0
  · exact w_c1
  · exact w_c2
set_option maxRecDepth 65536 in
theorem w_t1 : words1.all (fun c => isCode c || c.before args0 about1) = true := by decide +kernel
theorem w_tables : (allAtoms (Jvm.Cond.code x code maxLocals ret :: tables_1)).before args0 about1 = true := by
  rw [allAtoms_all]
  show words1.all (fun c => c.before args0 about1) = true
  refine all_split ?_ w_codes
  rw [w_t1]
set_option maxRecDepth 65536 in
theorem w_case : (Jvm.Cond.and given_1 narrow_1).before args0 about1 = true := by decide +kernel
theorem w_applies : (headSpec (Jvm.Cond.code x code maxLocals ret :: tables_1) room_1).applies x e0.platform about1 = true :=
  (Spec.applies_iff w_frames).mpr ⟨w_running, w_runnable, w_alone, w_named, w_hears, w_ripe, w_room, w_tables⟩
theorem atStart : AtStart classFile x code maxLocals ret World_1 tables_1 room_1 Calls_1 rest_1 Pre_1 launch0 p0 e0 about1 theMethod args0 below0 :=
  ⟨lists_1, trivial, launch0.admits_env _ _ _, launch0.least_env, fairChoices_fair.cas, fairChoices_fair.clock, w_frames, w_args, w_heap, w_applies, trivial, trivial, w_case⟩
end start1
theorem witness_1 : WitnessClaimed_1 := ⟨start1.p0, start1.e0, start1.about1, start1.theMethod, start1.args0, start1.below0, start1.atStart⟩
end Jvm.Pilot.@@N@@

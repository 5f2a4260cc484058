import JvmDerived
import JvmDerived.Pilot.@@N@@Statement
import JvmDerived.Pilot.@@N@@Code
set_option linter.unusedVariables false
set_option linter.unusedSimpArgs false
namespace Jvm.Pilot.@@N@@.W
open Jvm Jvm.ClassFile Sem Op Lib Jvm.Free Jvm.Stand Jvm.LawKit Jvm.RoadKit Bundle

/-- the invocation comes to its end from (T, f): what it returns and the heap there are as G says; nothing below n0 is written; at most K cells, N slots are made -/
def Ends (p : Program) (e : Env) (below : List Frame) (Y : State → Outcome → List Loc → Prop) (n0 : Nat) (G : Option Value → Heap → Prop) (T : State) (f : JFrame) : Prop :=
  ∃ s₂ o, Steps p.tables e below (T.setTop f) s₂ ∧ s₂.status = .running ∧ Ended s₂ below o ∧ ∃ v L, o = .returned v ∧ (G v s₂.heap ∧ Fr n0 L) ∧ Y s₂ o L
/-- the walk stands in T, whose heap is h -/
def St (p : Program) (l : Launch) (e : Env) (R : Room) (s : State) (m : MethodId) (args : Array Value) (below : List Frame) (meth : Method) (c : Code) (n0 : Nat) (h : Heap) (k n : Nat) (T : State) : Prop :=
  ∃ locs, Fr n0 locs ∧ Stand p l e R s m args below meth c T locs k n ∧ T.heap = h
/-- what stays through a walk: the machine, the tables of the start, the body, its class, what it returns -/
def Cx (p : Program) (s : State) (m : MethodId) (meth : Method) (c : Code) (Z : State) (n0 : Nat) (own : String) (bytes : ByteArray) (ml : Nat) (ret : Option FieldType) : Prop :=
  p.tables.exec = Jvm.exec ∧ Z.Warmed39 s.vm ∧ c.code = bytes ∧ c.maxLocals = ml ∧ s.vm.findClass own = some m.cls ∧ meth.sig.returnType = ret ∧ meth.locks = false ∧ n0 ≤ s.heap.size
/-- from every state that stands so, with the frame f on top, the invocation comes to its end -/
def Go (p : Program) (l : Launch) (e : Env) (R : Room) (s : State) (m : MethodId) (args : Array Value) (below : List Frame) (meth : Method) (c : Code) (Y : State → Outcome → List Loc → Prop) (n0 : Nat) (G : Option Value → Heap → Prop) (h : Heap) (k n : Nat) (f : JFrame) : Prop :=
  ∀ T, St p l e R s m args below meth c n0 h k n T → Ends p e below Y n0 G T f
/-- a body's contract -/
abbrev Con (l : Launch) (Z : State) (y : MethodName) (bytes : ByteArray) (ml : Nat) (ret : Option FieldType) (ws : List Cond) (rm : Room) (K N : Nat) (as : Array Value) (h0 : Heap) (n0 : Nat) (G : Option Value → Heap → Prop) : Prop :=
  MetFree l y (head1 (Cond.code y bytes ml ret :: ws) rm) (fun a U => a = as ∧ Z.Warmed39 U.vm ∧ U.heap = h0) (fun _ _ _ _ _ => True) (fun _ U o U' => ∃ v L, o = .returned v ∧ (G v U'.heap ∧ Fr n0 L) ∧ FrameEnd U o U' L K N)

section Walk
variable {p : Program} {l : Launch} {e : Env} {R : Room} {s : State} {m : MethodId} {args : Array Value} {below : List Frame} {meth : Method} {c : Code} {K N n0 k n : Nat} {G : Option Value → Heap → Prop} {Y : State → Outcome → List Loc → Prop}
  {Z : State} {a0 : Array Value} {own : String} {bytes : ByteArray} {ml : Nat} {ret : Option FieldType} {Ls Ls' : Array Slot} {S : List Value} {pc pc' pn : Nat} {h h' : Heap}

theorem step {T T' : State} {f f' : JFrame} (q : ∀ target, Steps p.tables e below (T'.setTop f') target → Steps p.tables e below (T.setTop f) target) (g : Ends p e below Y n0 G T' f') : Ends p e below Y n0 G T f := by
  obtain ⟨s₂, o, h1, h2⟩ := g
  exact ⟨s₂, o, q _ h1, h2⟩
theorem stepG {f f' : JFrame} (q : ∀ T locs, Stand p l e R s m args below meth c T locs k n → T.heap = h → ∀ target, Steps p.tables e below (T.setTop f') target → Steps p.tables e below (T.setTop f) target)
    (g : Go p l e R s m args below meth c Y n0 G h k n f') : Go p l e R s m args below meth c Y n0 G h k n f := fun T ⟨locs, F, X, eT⟩ => step (q T locs X eT) (g T ⟨locs, F, X, eT⟩)
theorem Go.mono {f : JFrame} {k2 n2 : Nat} (g : Go p l e R s m args below meth c Y n0 G h k2 n2 f) (h1 : k ≤ k2) (h2 : n ≤ n2) : Go p l e R s m args below meth c Y n0 G h k n f := fun T ⟨locs, F, X, eT⟩ =>
  g T ⟨locs, F, ⟨X.admits, X.cas, X.clock, X.frames, X.room, X.hears, X.method, X.code, X.here, X.tail, X.warmed, X.limits, X.bytes, X.same.mono h1 h2⟩, eT⟩
theorem Go.castF {f f' : JFrame} (q : f = f') (g : Go p l e R s m args below meth c Y n0 G h k n f') : Go p l e R s m args below meth c Y n0 G h k n f := q ▸ g

/-- entering -/
theorem enter {y : MethodName} {as : Array Value} {ws : List Cond} {rm : Room} {h0 : Heap} (hp : plainFor y = true) (Z0 : n0 ≤ h0.size)
    (body : ∀ p e s m below meth c, Cx p s m meth c Z n0 y.cls bytes ml ret → meth.name = y.name → s.heap = h0 → Go p l e rm s m as below meth c (fun s₂ o L => FrameEnd s o s₂ L K N) n0 G h0 0 0 (entryFrame m as ml)) : Con l Z y bytes ml ret ws rm K N as h0 n0 G := by
  refine MetFree.of_bodySF hp hisR ?_
  intro p e s m args below meth c s₁ Bd hml0 hP hK
  obtain ⟨rfl, hZ, hh⟩ := hP
  have X0 : Stand p l e rm s m args below meth c s₁ [] 0 0 := Stand.of_body Bd
  have e0 : s₁.heap = h0 := by rw [← hh, Bd.state]; rfl
  obtain ⟨s₂, o, h1, h2, h3, h4⟩ := body p e s m below meth c ⟨Bd.exec, hZ, Bd.bytes, hml0, findClass_of_methodNamed Bd.named, Bd.returns, Bd.notSynchronized, by rw [hh]; exact Z0⟩ (name_of_methodNamed Bd.named Bd.method).1 hh s₁ ⟨[], Fr.nil _, X0, e0⟩
  exact ⟨s₂, o, h1, h2, h3, h4⟩

/-! loads, stores, constants -/
theorem iloadN (C : Cx p s m meth c Z n0 own bytes ml ret) {i : Fin 4} {v : Int32} (hd : decode bytes pc = .ok (.iload_n i, 1)) (hp : pc + 1 = pc') (hl : Ls[i.val]? = some (.val (.int v)))
    (g : Go p l e R s m args below meth c Y n0 G h k n (mkF m pc' Ls (.int v :: S))) : Go p l e R s m args below meth c Y n0 G h k n (mkF m pc Ls S) := by
  subst hp; exact stepG (fun T locs X _ _ q => XS.iloadN X.here C.1 rfl (hb C.2.2.1 hd) hl q) g
theorem iload (C : Cx p s m meth c Z n0 own bytes ml ret) {i : Nat} {v : Int32} (hd : decode bytes pc = .ok (.iload i, 2)) (hp : pc + 2 = pc') (hl : Ls[i]? = some (.val (.int v)))
    (g : Go p l e R s m args below meth c Y n0 G h k n (mkF m pc' Ls (.int v :: S))) : Go p l e R s m args below meth c Y n0 G h k n (mkF m pc Ls S) := by
  subst hp; exact stepG (fun T locs X _ _ q => XS.iload X.here C.1 rfl (hb C.2.2.1 hd) hl q) g
theorem lloadN (C : Cx p s m meth c Z n0 own bytes ml ret) {i : Fin 4} {v : Int64} (hd : decode bytes pc = .ok (.lload_n i, 1)) (hp : pc + 1 = pc') (hl : Ls[i.val]? = some (.val (.long v)))
    (g : Go p l e R s m args below meth c Y n0 G h k n (mkF m pc' Ls (.long v :: S))) : Go p l e R s m args below meth c Y n0 G h k n (mkF m pc Ls S) := by
  subst hp; exact stepG (fun T locs X _ _ q => XS.lloadN X.here C.1 rfl (hb C.2.2.1 hd) hl q) g
theorem lload (C : Cx p s m meth c Z n0 own bytes ml ret) {i : Nat} {v : Int64} (hd : decode bytes pc = .ok (.lload i, 2)) (hp : pc + 2 = pc') (hl : Ls[i]? = some (.val (.long v)))
    (g : Go p l e R s m args below meth c Y n0 G h k n (mkF m pc' Ls (.long v :: S))) : Go p l e R s m args below meth c Y n0 G h k n (mkF m pc Ls S) := by
  subst hp; exact stepG (fun T locs X _ _ q => XS.lload X.here C.1 rfl (hb C.2.2.1 hd) hl q) g
theorem aloadN (C : Cx p s m meth c Z n0 own bytes ml ret) {i : Fin 4} {v : Value} (hd : decode bytes pc = .ok (.aload_n i, 1)) (hp : pc + 1 = pc') (hl : Ls[i.val]? = some (.val v)) (hv : v.isRef = true)
    (g : Go p l e R s m args below meth c Y n0 G h k n (mkF m pc' Ls (v :: S))) : Go p l e R s m args below meth c Y n0 G h k n (mkF m pc Ls S) := by
  subst hp; exact stepG (fun T locs X _ _ q => XS.aloadN X.here C.1 rfl (hb C.2.2.1 hd) hl hv q) g
theorem aload (C : Cx p s m meth c Z n0 own bytes ml ret) {i : Nat} {v : Value} (hd : decode bytes pc = .ok (.aload i, 2)) (hp : pc + 2 = pc') (hl : Ls[i]? = some (.val v)) (hv : v.isRef = true)
    (g : Go p l e R s m args below meth c Y n0 G h k n (mkF m pc' Ls (v :: S))) : Go p l e R s m args below meth c Y n0 G h k n (mkF m pc Ls S) := by
  subst hp; exact stepG (fun T locs X _ _ q => XS.aload X.here C.1 rfl (hb C.2.2.1 hd) hl hv q) g
theorem istoreN (C : Cx p s m meth c Z n0 own bytes ml ret) {i : Fin 4} {x : Int32} (hd : decode bytes pc = .ok (.istore_n i, 1)) (hp : pc + 1 = pc') (hl : storeLocals Ls i.val (.int x) = some Ls')
    (g : Go p l e R s m args below meth c Y n0 G h k n (mkF m pc' Ls' S)) : Go p l e R s m args below meth c Y n0 G h k n (mkF m pc Ls (.int x :: S)) := by
  subst hp; exact stepG (fun T locs X _ _ q => XS.istoreN X.here C.1 rfl (hb C.2.2.1 hd) rfl hl q) g
theorem istore (C : Cx p s m meth c Z n0 own bytes ml ret) {i : Nat} {x : Int32} (hd : decode bytes pc = .ok (.istore i, 2)) (hp : pc + 2 = pc') (hl : storeLocals Ls i (.int x) = some Ls')
    (g : Go p l e R s m args below meth c Y n0 G h k n (mkF m pc' Ls' S)) : Go p l e R s m args below meth c Y n0 G h k n (mkF m pc Ls (.int x :: S)) := by
  subst hp; exact stepG (fun T locs X _ _ q => XS.istore X.here C.1 rfl (hb C.2.2.1 hd) rfl hl q) g
theorem lstoreN (C : Cx p s m meth c Z n0 own bytes ml ret) {i : Fin 4} {x : Int64} (hd : decode bytes pc = .ok (.lstore_n i, 1)) (hp : pc + 1 = pc') (hl : storeLocals Ls i.val (.long x) = some Ls')
    (g : Go p l e R s m args below meth c Y n0 G h k n (mkF m pc' Ls' S)) : Go p l e R s m args below meth c Y n0 G h k n (mkF m pc Ls (.long x :: S)) := by
  subst hp; exact stepG (fun T locs X _ _ q => XS.lstoreN X.here C.1 rfl (hb C.2.2.1 hd) rfl hl q) g
theorem lstore (C : Cx p s m meth c Z n0 own bytes ml ret) {i : Nat} {x : Int64} (hd : decode bytes pc = .ok (.lstore i, 2)) (hp : pc + 2 = pc') (hl : storeLocals Ls i (.long x) = some Ls')
    (g : Go p l e R s m args below meth c Y n0 G h k n (mkF m pc' Ls' S)) : Go p l e R s m args below meth c Y n0 G h k n (mkF m pc Ls (.long x :: S)) := by
  subst hp; exact stepG (fun T locs X _ _ q => XS.lstore X.here C.1 rfl (hb C.2.2.1 hd) rfl hl q) g
theorem astoreN (C : Cx p s m meth c Z n0 own bytes ml ret) {i : Fin 4} {x : Value} (hd : decode bytes pc = .ok (.astore_n i, 1)) (hp : pc + 1 = pc') (hv : x.isRef = true) (hl : storeLocals Ls i.val x = some Ls')
    (g : Go p l e R s m args below meth c Y n0 G h k n (mkF m pc' Ls' S)) : Go p l e R s m args below meth c Y n0 G h k n (mkF m pc Ls (x :: S)) := by
  subst hp; exact stepG (fun T locs X _ _ q => XS.astoreN X.here C.1 rfl (hb C.2.2.1 hd) rfl hv hl q) g
theorem astore (C : Cx p s m meth c Z n0 own bytes ml ret) {i : Nat} {x : Value} (hd : decode bytes pc = .ok (.astore i, 2)) (hp : pc + 2 = pc') (hv : x.isRef = true) (hl : storeLocals Ls i x = some Ls')
    (g : Go p l e R s m args below meth c Y n0 G h k n (mkF m pc' Ls' S)) : Go p l e R s m args below meth c Y n0 G h k n (mkF m pc Ls (x :: S)) := by
  subst hp; exact stepG (fun T locs X _ _ q => XS.astore X.here C.1 rfl (hb C.2.2.1 hd) rfl hv hl q) g
theorem iconst (C : Cx p s m meth c Z n0 own bytes ml ret) {i : Int} {x : Int32} (hd : decode bytes pc = .ok (.iconst i, 1)) (hp : pc + 1 = pc') (hv : Int32.ofInt i = x)
    (g : Go p l e R s m args below meth c Y n0 G h k n (mkF m pc' Ls (.int x :: S))) : Go p l e R s m args below meth c Y n0 G h k n (mkF m pc Ls S) := by
  subst hp hv; exact stepG (fun T locs X _ _ q => XS.iconst X.here C.1 rfl (hb C.2.2.1 hd) q) g
theorem bipush (C : Cx p s m meth c Z n0 own bytes ml ret) {i : Int} {x : Int32} (hd : decode bytes pc = .ok (.bipush i, 2)) (hp : pc + 2 = pc') (hv : (Int8.ofInt i).toInt32 = x)
    (g : Go p l e R s m args below meth c Y n0 G h k n (mkF m pc' Ls (.int x :: S))) : Go p l e R s m args below meth c Y n0 G h k n (mkF m pc Ls S) := by
  subst hp hv; exact stepG (fun T locs X _ _ q => XS.bipush X.here C.1 rfl (hb C.2.2.1 hd) q) g
theorem sipush (C : Cx p s m meth c Z n0 own bytes ml ret) {i : Int} {x : Int32} (hd : decode bytes pc = .ok (.sipush i, 3)) (hp : pc + 3 = pc') (hv : (Int16.ofInt i).toInt32 = x)
    (g : Go p l e R s m args below meth c Y n0 G h k n (mkF m pc' Ls (.int x :: S))) : Go p l e R s m args below meth c Y n0 G h k n (mkF m pc Ls S) := by
  subst hp hv; exact stepG (fun T locs X _ _ q => XS.sipush X.here C.1 rfl (hb C.2.2.1 hd) q) g
theorem lconst (C : Cx p s m meth c Z n0 own bytes ml ret) {i : Fin 2} {x : Int64} (hd : decode bytes pc = .ok (.lconst i, 1)) (hp : pc + 1 = pc') (hv : Int64.ofNat i = x)
    (g : Go p l e R s m args below meth c Y n0 G h k n (mkF m pc' Ls (.long x :: S))) : Go p l e R s m args below meth c Y n0 G h k n (mkF m pc Ls S) := by
  subst hp hv; exact stepG (fun T locs X _ _ q => XS.lconst X.here C.1 rfl (hb C.2.2.1 hd) q) g
theorem aconst_null (C : Cx p s m meth c Z n0 own bytes ml ret) (hd : decode bytes pc = .ok (.aconst_null, 1)) (hp : pc + 1 = pc')
    (g : Go p l e R s m args below meth c Y n0 G h k n (mkF m pc' Ls (.null :: S))) : Go p l e R s m args below meth c Y n0 G h k n (mkF m pc Ls S) := by
  subst hp; exact stepG (fun T locs X _ _ q => XS.aconstNull X.here C.1 rfl (hb C.2.2.1 hd) q) g
theorem ldcI (C : Cx p s m meth c Z n0 own bytes ml ret) {i : Nat} {v : Int32} (w : (Cond.constant own i v).before a0 Z = true) (hd : decode bytes pc = .ok (.ldc i, 2)) (hp : pc + 2 = pc')
    (g : Go p l e R s m args below meth c Y n0 G h k n (mkF m pc' Ls (.int v :: S))) : Go p l e R s m args below meth c Y n0 G h k n (mkF m pc Ls S) := by
  subst hp; exact stepG (fun T locs X _ t q => X.ldcInt C.1 C.2.2.2.2.1 (mvT C.2.1 w) (g := mkF m pc Ls S) rfl (hb C.2.2.1 hd) t q) g
theorem ldcwI (C : Cx p s m meth c Z n0 own bytes ml ret) {i : Nat} {v : Int32} (w : (Cond.constant own i v).before a0 Z = true) (hd : decode bytes pc = .ok (.ldc_w i, 3)) (hp : pc + 3 = pc')
    (g : Go p l e R s m args below meth c Y n0 G h k n (mkF m pc' Ls (.int v :: S))) : Go p l e R s m args below meth c Y n0 G h k n (mkF m pc Ls S) := by
  subst hp; exact stepG (fun T locs X _ t q => X.ldcwInt C.1 C.2.2.2.2.1 (mvT C.2.1 w) (g := mkF m pc Ls S) rfl (hb C.2.2.1 hd) t q) g
theorem ldc2 (C : Cx p s m meth c Z n0 own bytes ml ret) {i : Nat} {v : Int64} (w : (Cond.constantLong own i v).before a0 Z = true) (hd : decode bytes pc = .ok (.ldc2_w i, 3)) (hp : pc + 3 = pc')
    (g : Go p l e R s m args below meth c Y n0 G h k n (mkF m pc' Ls (.long v :: S))) : Go p l e R s m args below meth c Y n0 G h k n (mkF m pc Ls S) := by
  subst hp; exact stepG (fun T locs X _ t q => X.ldc2Long C.1 C.2.2.2.2.1 (mvT C.2.1 w) (g := mkF m pc Ls S) rfl (hb C.2.2.1 hd) t q) g
theorem iadd (C : Cx p s m meth c Z n0 own bytes ml ret) {x y z : Int32} (hd : decode bytes pc = .ok (.iadd, 1)) (hp : pc + 1 = pc') (hv : x + y = z)
    (g : Go p l e R s m args below meth c Y n0 G h k n (mkF m pc' Ls (.int z :: S))) : Go p l e R s m args below meth c Y n0 G h k n (mkF m pc Ls (.int y :: .int x :: S)) := by
  subst hp hv; exact stepG (fun T locs X _ _ q => XS.iadd X.here C.1 rfl (hb C.2.2.1 hd) rfl q) g
theorem isub (C : Cx p s m meth c Z n0 own bytes ml ret) {x y z : Int32} (hd : decode bytes pc = .ok (.isub, 1)) (hp : pc + 1 = pc') (hv : x - y = z)
    (g : Go p l e R s m args below meth c Y n0 G h k n (mkF m pc' Ls (.int z :: S))) : Go p l e R s m args below meth c Y n0 G h k n (mkF m pc Ls (.int y :: .int x :: S)) := by
  subst hp hv; exact stepG (fun T locs X _ _ q => XS.isub X.here C.1 rfl (hb C.2.2.1 hd) rfl q) g
theorem imul (C : Cx p s m meth c Z n0 own bytes ml ret) {x y z : Int32} (hd : decode bytes pc = .ok (.imul, 1)) (hp : pc + 1 = pc') (hv : x * y = z)
    (g : Go p l e R s m args below meth c Y n0 G h k n (mkF m pc' Ls (.int z :: S))) : Go p l e R s m args below meth c Y n0 G h k n (mkF m pc Ls (.int y :: .int x :: S)) := by
  subst hp hv; exact stepG (fun T locs X _ _ q => XS.imul X.here C.1 rfl (hb C.2.2.1 hd) rfl q) g
theorem iand (C : Cx p s m meth c Z n0 own bytes ml ret) {x y z : Int32} (hd : decode bytes pc = .ok (.iand, 1)) (hp : pc + 1 = pc') (hv : x &&& y = z)
    (g : Go p l e R s m args below meth c Y n0 G h k n (mkF m pc' Ls (.int z :: S))) : Go p l e R s m args below meth c Y n0 G h k n (mkF m pc Ls (.int y :: .int x :: S)) := by
  subst hp hv; exact stepG (fun T locs X _ _ q => XS.iand X.here C.1 rfl (hb C.2.2.1 hd) rfl q) g
theorem ior (C : Cx p s m meth c Z n0 own bytes ml ret) {x y z : Int32} (hd : decode bytes pc = .ok (.ior, 1)) (hp : pc + 1 = pc') (hv : x ||| y = z)
    (g : Go p l e R s m args below meth c Y n0 G h k n (mkF m pc' Ls (.int z :: S))) : Go p l e R s m args below meth c Y n0 G h k n (mkF m pc Ls (.int y :: .int x :: S)) := by
  subst hp hv; exact stepG (fun T locs X _ _ q => XS.ior X.here C.1 rfl (hb C.2.2.1 hd) rfl q) g
theorem ixor (C : Cx p s m meth c Z n0 own bytes ml ret) {x y z : Int32} (hd : decode bytes pc = .ok (.ixor, 1)) (hp : pc + 1 = pc') (hv : x ^^^ y = z)
    (g : Go p l e R s m args below meth c Y n0 G h k n (mkF m pc' Ls (.int z :: S))) : Go p l e R s m args below meth c Y n0 G h k n (mkF m pc Ls (.int y :: .int x :: S)) := by
  subst hp hv; exact stepG (fun T locs X _ _ q => XS.ixor X.here C.1 rfl (hb C.2.2.1 hd) rfl q) g
theorem ladd (C : Cx p s m meth c Z n0 own bytes ml ret) {x y z : Int64} (hd : decode bytes pc = .ok (.ladd, 1)) (hp : pc + 1 = pc') (hv : x + y = z)
    (g : Go p l e R s m args below meth c Y n0 G h k n (mkF m pc' Ls (.long z :: S))) : Go p l e R s m args below meth c Y n0 G h k n (mkF m pc Ls (.long y :: .long x :: S)) := by
  subst hp hv; exact stepG (fun T locs X _ _ q => XS.ladd X.here C.1 rfl (hb C.2.2.1 hd) rfl q) g
theorem lsub (C : Cx p s m meth c Z n0 own bytes ml ret) {x y z : Int64} (hd : decode bytes pc = .ok (.lsub, 1)) (hp : pc + 1 = pc') (hv : x - y = z)
    (g : Go p l e R s m args below meth c Y n0 G h k n (mkF m pc' Ls (.long z :: S))) : Go p l e R s m args below meth c Y n0 G h k n (mkF m pc Ls (.long y :: .long x :: S)) := by
  subst hp hv; exact stepG (fun T locs X _ _ q => XS.lsub X.here C.1 rfl (hb C.2.2.1 hd) rfl q) g
theorem lmul (C : Cx p s m meth c Z n0 own bytes ml ret) {x y z : Int64} (hd : decode bytes pc = .ok (.lmul, 1)) (hp : pc + 1 = pc') (hv : x * y = z)
    (g : Go p l e R s m args below meth c Y n0 G h k n (mkF m pc' Ls (.long z :: S))) : Go p l e R s m args below meth c Y n0 G h k n (mkF m pc Ls (.long y :: .long x :: S)) := by
  subst hp hv; exact stepG (fun T locs X _ _ q => XS.lmul X.here C.1 rfl (hb C.2.2.1 hd) rfl q) g
theorem land (C : Cx p s m meth c Z n0 own bytes ml ret) {x y z : Int64} (hd : decode bytes pc = .ok (.land, 1)) (hp : pc + 1 = pc') (hv : x &&& y = z)
    (g : Go p l e R s m args below meth c Y n0 G h k n (mkF m pc' Ls (.long z :: S))) : Go p l e R s m args below meth c Y n0 G h k n (mkF m pc Ls (.long y :: .long x :: S)) := by
  subst hp hv; exact stepG (fun T locs X _ _ q => XS.land X.here C.1 rfl (hb C.2.2.1 hd) rfl q) g
theorem lor (C : Cx p s m meth c Z n0 own bytes ml ret) {x y z : Int64} (hd : decode bytes pc = .ok (.lor, 1)) (hp : pc + 1 = pc') (hv : x ||| y = z)
    (g : Go p l e R s m args below meth c Y n0 G h k n (mkF m pc' Ls (.long z :: S))) : Go p l e R s m args below meth c Y n0 G h k n (mkF m pc Ls (.long y :: .long x :: S)) := by
  subst hp hv; exact stepG (fun T locs X _ _ q => XS.lor X.here C.1 rfl (hb C.2.2.1 hd) rfl q) g
theorem lxor (C : Cx p s m meth c Z n0 own bytes ml ret) {x y z : Int64} (hd : decode bytes pc = .ok (.lxor, 1)) (hp : pc + 1 = pc') (hv : x ^^^ y = z)
    (g : Go p l e R s m args below meth c Y n0 G h k n (mkF m pc' Ls (.long z :: S))) : Go p l e R s m args below meth c Y n0 G h k n (mkF m pc Ls (.long y :: .long x :: S)) := by
  subst hp hv; exact stepG (fun T locs X _ _ q => XS.lxor X.here C.1 rfl (hb C.2.2.1 hd) rfl q) g
theorem ishl (C : Cx p s m meth c Z n0 own bytes ml ret) {x z : Int32} {y : Int32} (hd : decode bytes pc = .ok (.ishl, 1)) (hp : pc + 1 = pc') (hv : (x <<< (y &&& 31)) = z)
    (g : Go p l e R s m args below meth c Y n0 G h k n (mkF m pc' Ls (.int z :: S))) : Go p l e R s m args below meth c Y n0 G h k n (mkF m pc Ls (.int y :: .int x :: S)) := by
  subst hp hv; exact stepG (fun T locs X _ _ q => XS.ishl X.here C.1 rfl (hb C.2.2.1 hd) rfl q) g
theorem ishr (C : Cx p s m meth c Z n0 own bytes ml ret) {x z : Int32} {y : Int32} (hd : decode bytes pc = .ok (.ishr, 1)) (hp : pc + 1 = pc') (hv : (x >>> (y &&& 31)) = z)
    (g : Go p l e R s m args below meth c Y n0 G h k n (mkF m pc' Ls (.int z :: S))) : Go p l e R s m args below meth c Y n0 G h k n (mkF m pc Ls (.int y :: .int x :: S)) := by
  subst hp hv; exact stepG (fun T locs X _ _ q => XS.ishr X.here C.1 rfl (hb C.2.2.1 hd) rfl q) g
theorem iushr (C : Cx p s m meth c Z n0 own bytes ml ret) {x z : Int32} {y : Int32} (hd : decode bytes pc = .ok (.iushr, 1)) (hp : pc + 1 = pc') (hv : ((x).toUInt32 >>> (y &&& 31).toUInt32).toInt32 = z)
    (g : Go p l e R s m args below meth c Y n0 G h k n (mkF m pc' Ls (.int z :: S))) : Go p l e R s m args below meth c Y n0 G h k n (mkF m pc Ls (.int y :: .int x :: S)) := by
  subst hp hv; exact stepG (fun T locs X _ _ q => XS.iushr X.here C.1 rfl (hb C.2.2.1 hd) rfl q) g
theorem lshl (C : Cx p s m meth c Z n0 own bytes ml ret) {x z : Int64} {y : Int32} (hd : decode bytes pc = .ok (.lshl, 1)) (hp : pc + 1 = pc') (hv : (x <<< (y &&& 0x3f).toInt64) = z)
    (g : Go p l e R s m args below meth c Y n0 G h k n (mkF m pc' Ls (.long z :: S))) : Go p l e R s m args below meth c Y n0 G h k n (mkF m pc Ls (.int y :: .long x :: S)) := by
  subst hp hv; exact stepG (fun T locs X _ _ q => XS.lshl X.here C.1 rfl (hb C.2.2.1 hd) rfl q) g
theorem lshr (C : Cx p s m meth c Z n0 own bytes ml ret) {x z : Int64} {y : Int32} (hd : decode bytes pc = .ok (.lshr, 1)) (hp : pc + 1 = pc') (hv : (x >>> (y &&& 0x3f).toInt64) = z)
    (g : Go p l e R s m args below meth c Y n0 G h k n (mkF m pc' Ls (.long z :: S))) : Go p l e R s m args below meth c Y n0 G h k n (mkF m pc Ls (.int y :: .long x :: S)) := by
  subst hp hv; exact stepG (fun T locs X _ _ q => XS.lshr X.here C.1 rfl (hb C.2.2.1 hd) rfl q) g
theorem lushr (C : Cx p s m meth c Z n0 own bytes ml ret) {x z : Int64} {y : Int32} (hd : decode bytes pc = .ok (.lushr, 1)) (hp : pc + 1 = pc') (hv : ((x).toUInt64 >>> (y &&& 0x3f).toInt64.toUInt64).toInt64 = z)
    (g : Go p l e R s m args below meth c Y n0 G h k n (mkF m pc' Ls (.long z :: S))) : Go p l e R s m args below meth c Y n0 G h k n (mkF m pc Ls (.int y :: .long x :: S)) := by
  subst hp hv; exact stepG (fun T locs X _ _ q => XS.lushr X.here C.1 rfl (hb C.2.2.1 hd) rfl q) g
theorem ineg (C : Cx p s m meth c Z n0 own bytes ml ret) {x : Int32} {z : Int32} (hd : decode bytes pc = .ok (.ineg, 1)) (hp : pc + 1 = pc') (hv : (-x) = z)
    (g : Go p l e R s m args below meth c Y n0 G h k n (mkF m pc' Ls (.int z :: S))) : Go p l e R s m args below meth c Y n0 G h k n (mkF m pc Ls (.int x :: S)) := by
  subst hp hv; exact stepG (fun T locs X _ _ q => XS.ineg X.here C.1 rfl (hb C.2.2.1 hd) rfl q) g
theorem lneg (C : Cx p s m meth c Z n0 own bytes ml ret) {x : Int64} {z : Int64} (hd : decode bytes pc = .ok (.lneg, 1)) (hp : pc + 1 = pc') (hv : (-x) = z)
    (g : Go p l e R s m args below meth c Y n0 G h k n (mkF m pc' Ls (.long z :: S))) : Go p l e R s m args below meth c Y n0 G h k n (mkF m pc Ls (.long x :: S)) := by
  subst hp hv; exact stepG (fun T locs X _ _ q => XS.lneg X.here C.1 rfl (hb C.2.2.1 hd) rfl q) g
theorem i2l (C : Cx p s m meth c Z n0 own bytes ml ret) {x : Int32} {z : Int64} (hd : decode bytes pc = .ok (.i2l, 1)) (hp : pc + 1 = pc') (hv : (x).toInt64 = z)
    (g : Go p l e R s m args below meth c Y n0 G h k n (mkF m pc' Ls (.long z :: S))) : Go p l e R s m args below meth c Y n0 G h k n (mkF m pc Ls (.int x :: S)) := by
  subst hp hv; exact stepG (fun T locs X _ _ q => XS.i2l X.here C.1 rfl (hb C.2.2.1 hd) rfl q) g
theorem l2i (C : Cx p s m meth c Z n0 own bytes ml ret) {x : Int64} {z : Int32} (hd : decode bytes pc = .ok (.l2i, 1)) (hp : pc + 1 = pc') (hv : (x).toInt32 = z)
    (g : Go p l e R s m args below meth c Y n0 G h k n (mkF m pc' Ls (.int z :: S))) : Go p l e R s m args below meth c Y n0 G h k n (mkF m pc Ls (.long x :: S)) := by
  subst hp hv; exact stepG (fun T locs X _ _ q => XS.l2i X.here C.1 rfl (hb C.2.2.1 hd) rfl q) g
theorem i2b (C : Cx p s m meth c Z n0 own bytes ml ret) {x : Int32} {z : Int32} (hd : decode bytes pc = .ok (.i2b, 1)) (hp : pc + 1 = pc') (hv : (x).toInt8.toInt32 = z)
    (g : Go p l e R s m args below meth c Y n0 G h k n (mkF m pc' Ls (.int z :: S))) : Go p l e R s m args below meth c Y n0 G h k n (mkF m pc Ls (.int x :: S)) := by
  subst hp hv; exact stepG (fun T locs X _ _ q => XS.i2b X.here C.1 rfl (hb C.2.2.1 hd) rfl q) g
theorem i2s (C : Cx p s m meth c Z n0 own bytes ml ret) {x : Int32} {z : Int32} (hd : decode bytes pc = .ok (.i2s, 1)) (hp : pc + 1 = pc') (hv : (x).toInt16.toInt32 = z)
    (g : Go p l e R s m args below meth c Y n0 G h k n (mkF m pc' Ls (.int z :: S))) : Go p l e R s m args below meth c Y n0 G h k n (mkF m pc Ls (.int x :: S)) := by
  subst hp hv; exact stepG (fun T locs X _ _ q => XS.i2s X.here C.1 rfl (hb C.2.2.1 hd) rfl q) g
theorem i2c (C : Cx p s m meth c Z n0 own bytes ml ret) {x : Int32} {z : Int32} (hd : decode bytes pc = .ok (.i2c, 1)) (hp : pc + 1 = pc') (hv : (x).toUInt32.toUInt16.toUInt32.toInt32 = z)
    (g : Go p l e R s m args below meth c Y n0 G h k n (mkF m pc' Ls (.int z :: S))) : Go p l e R s m args below meth c Y n0 G h k n (mkF m pc Ls (.int x :: S)) := by
  subst hp hv; exact stepG (fun T locs X _ _ q => XS.i2c X.here C.1 rfl (hb C.2.2.1 hd) rfl q) g
theorem idiv (C : Cx p s m meth c Z n0 own bytes ml ret) {x y z : Int32} (hd : decode bytes pc = .ok (.idiv, 1)) (hp : pc + 1 = pc') (hy : y ≠ 0) (hv : x / y = z)
    (g : Go p l e R s m args below meth c Y n0 G h k n (mkF m pc' Ls (.int z :: S))) : Go p l e R s m args below meth c Y n0 G h k n (mkF m pc Ls (.int y :: .int x :: S)) := by
  subst hp hv; exact stepG (fun T locs X _ _ q => XS.idiv X.here C.1 rfl (hb C.2.2.1 hd) rfl hy q) g
theorem ldiv (C : Cx p s m meth c Z n0 own bytes ml ret) {x y z : Int64} (hd : decode bytes pc = .ok (.ldiv, 1)) (hp : pc + 1 = pc') (hy : y ≠ 0) (hv : x / y = z)
    (g : Go p l e R s m args below meth c Y n0 G h k n (mkF m pc' Ls (.long z :: S))) : Go p l e R s m args below meth c Y n0 G h k n (mkF m pc Ls (.long y :: .long x :: S)) := by
  subst hp hv; exact stepG (fun T locs X _ _ q => XS.ldiv X.here C.1 rfl (hb C.2.2.1 hd) rfl hy q) g
theorem irem (C : Cx p s m meth c Z n0 own bytes ml ret) {x y z : Int32} (hd : decode bytes pc = .ok (.irem, 1)) (hp : pc + 1 = pc') (hy : y ≠ 0) (hv : x % y = z)
    (g : Go p l e R s m args below meth c Y n0 G h k n (mkF m pc' Ls (.int z :: S))) : Go p l e R s m args below meth c Y n0 G h k n (mkF m pc Ls (.int y :: .int x :: S)) := by
  subst hp; rw [← irem_eq_mod x y] at hv; subst hv; exact stepG (fun T locs X _ _ q => XS.irem X.here C.1 rfl (hb C.2.2.1 hd) rfl hy q) g
theorem lrem (C : Cx p s m meth c Z n0 own bytes ml ret) {x y z : Int64} (hd : decode bytes pc = .ok (.lrem, 1)) (hp : pc + 1 = pc') (hy : y ≠ 0) (hv : x % y = z)
    (g : Go p l e R s m args below meth c Y n0 G h k n (mkF m pc' Ls (.long z :: S))) : Go p l e R s m args below meth c Y n0 G h k n (mkF m pc Ls (.long y :: .long x :: S)) := by
  subst hp; rw [← lrem_mod x y] at hv; subst hv; exact stepG (fun T locs X _ _ q => XS.lrem X.here C.1 rfl (hb C.2.2.1 hd) rfl hy q) g
theorem iinc (C : Cx p s m meth c Z n0 own bytes ml ret) {i : Nat} {cst : Int} {x z : Int32} (hd : decode bytes pc = .ok (.iinc i cst, 3)) (hp : pc + 3 = pc') (hl : Ls[i]? = some (.val (.int x))) (hv : x + Int32.ofInt cst = z) (hl' : storeLocals Ls i (.int z) = some Ls')
    (g : Go p l e R s m args below meth c Y n0 G h k n (mkF m pc' Ls' S)) : Go p l e R s m args below meth c Y n0 G h k n (mkF m pc Ls S) := by
  subst hp hv; exact stepG (fun T locs X _ _ q => XS.iinc X.here C.1 rfl (hb C.2.2.1 hd) hl hl' q) g
theorem dup (C : Cx p s m meth c Z n0 own bytes ml ret) {x : Value} (hd : decode bytes pc = .ok (.dup, 1)) (hp : pc + 1 = pc') (hc : x.category = 1)
    (g : Go p l e R s m args below meth c Y n0 G h k n (mkF m pc' Ls (x :: x :: S))) : Go p l e R s m args below meth c Y n0 G h k n (mkF m pc Ls (x :: S)) := by
  subst hp; exact stepG (fun T locs X _ _ q => XS.dup X.here C.1 rfl (hb C.2.2.1 hd) rfl hc q) g
theorem dup_x1 (C : Cx p s m meth c Z n0 own bytes ml ret) {x y : Value} (hd : decode bytes pc = .ok (.dup_x1, 1)) (hp : pc + 1 = pc') (hc : x.category = 1) (hc2 : y.category = 1)
    (g : Go p l e R s m args below meth c Y n0 G h k n (mkF m pc' Ls (x :: y :: x :: S))) : Go p l e R s m args below meth c Y n0 G h k n (mkF m pc Ls (x :: y :: S)) := by
  subst hp; exact stepG (fun T locs X _ _ q => XS.dupX1 X.here C.1 rfl (hb C.2.2.1 hd) rfl hc hc2 q) g
theorem dup2L (C : Cx p s m meth c Z n0 own bytes ml ret) {x : Int64} (hd : decode bytes pc = .ok (.dup2, 1)) (hp : pc + 1 = pc')
    (g : Go p l e R s m args below meth c Y n0 G h k n (mkF m pc' Ls (.long x :: .long x :: S))) : Go p l e R s m args below meth c Y n0 G h k n (mkF m pc Ls (.long x :: S)) := by
  subst hp; exact stepG (fun T locs X _ _ q => Jvm.Free.XT.dup2L X.here C.1 rfl (hb C.2.2.1 hd) rfl q) g
theorem dup2 (C : Cx p s m meth c Z n0 own bytes ml ret) {x y : Value} (hd : decode bytes pc = .ok (.dup2, 1)) (hp : pc + 1 = pc') (hc : x.category = 1) (hc2 : y.category = 1)
    (g : Go p l e R s m args below meth c Y n0 G h k n (mkF m pc' Ls (x :: y :: x :: y :: S))) : Go p l e R s m args below meth c Y n0 G h k n (mkF m pc Ls (x :: y :: S)) := by
  subst hp; exact stepG (fun T locs X _ _ q => Jvm.Free.XT.dup2 X.here C.1 rfl (hb C.2.2.1 hd) rfl hc hc2 q) g
theorem pop (C : Cx p s m meth c Z n0 own bytes ml ret) {x : Value} (hd : decode bytes pc = .ok (.pop, 1)) (hp : pc + 1 = pc') (hc : x.category = 1)
    (g : Go p l e R s m args below meth c Y n0 G h k n (mkF m pc' Ls S)) : Go p l e R s m args below meth c Y n0 G h k n (mkF m pc Ls (x :: S)) := by
  subst hp; exact stepG (fun T locs X _ _ q => XS.pop X.here C.1 rfl (hb C.2.2.1 hd) rfl hc q) g
theorem goto (C : Cx p s m meth c Z n0 own bytes ml ret) {o : Int} (hd : decode bytes pc = .ok (.goto o, 3)) (ho : 0 ≤ (pc : Int) + o) (hp : ((pc : Int) + o).toNat = pc')
    (g : Go p l e R s m args below meth c Y n0 G h k n (mkF m pc' Ls S)) : Go p l e R s m args below meth c Y n0 G h k n (mkF m pc Ls S) := by
  exact stepG (fun T locs X _ _ q => XS.goto X.here C.1 rfl (pc0 := pc) rfl (hb C.2.2.1 hd) ho hp q) g

/-! branches: P: taken, P': not taken -/
theorem icmp (C : Cx p s m meth c Z n0 own bytes ml ret) {cd : ClassFile.Cond} {o : Int} {x y : Int32} (hd : decode bytes pc = .ok (.if_icmp cd o, 3)) (ho : 0 ≤ (pc : Int) + o) (hp : ((pc : Int) + o).toNat = pc') (hn : pc + 3 = pn)
    {P P' : Prop} (q : (P → if_icmp.holds cd x y = true) ∧ (P' → if_icmp.holds cd x y = false) ∧ (P ∨ P'))
    (g1 : P → Go p l e R s m args below meth c Y n0 G h k n (mkF m pc' Ls S)) (g2 : P' → Go p l e R s m args below meth c Y n0 G h k n (mkF m pn Ls S)) : Go p l e R s m args below meth c Y n0 G h k n (mkF m pc Ls (.int y :: .int x :: S)) := by
  rcases q.2.2 with hP | hP
  · exact stepG (fun T locs X _ _ z => XS.icmpYes X.here C.1 rfl (pc0 := pc) rfl (hb C.2.2.1 hd) rfl (q.1 hP) ho hp z) (g1 hP)
  · subst hn; exact stepG (fun T locs X _ _ z => XS.icmpNo X.here C.1 rfl (hb C.2.2.1 hd) rfl (q.2.1 hP) z) (g2 hP)
theorem ifc (C : Cx p s m meth c Z n0 own bytes ml ret) {cd : ClassFile.Cond} {o : Int} {x : Int32} (hd : decode bytes pc = .ok (.ifCond cd o, 3)) (ho : 0 ≤ (pc : Int) + o) (hp : ((pc : Int) + o).toNat = pc') (hn : pc + 3 = pn)
    {P P' : Prop} (q : (P → if_icmp.holds cd x 0 = true) ∧ (P' → if_icmp.holds cd x 0 = false) ∧ (P ∨ P'))
    (g1 : P → Go p l e R s m args below meth c Y n0 G h k n (mkF m pc' Ls S)) (g2 : P' → Go p l e R s m args below meth c Y n0 G h k n (mkF m pn Ls S)) : Go p l e R s m args below meth c Y n0 G h k n (mkF m pc Ls (.int x :: S)) := by
  rcases q.2.2 with hP | hP
  · exact stepG (fun T locs X _ _ z => XS.ifYes X.here C.1 rfl (pc0 := pc) rfl (hb C.2.2.1 hd) rfl ((if0 _ _).trans (q.1 hP)) ho hp z) (g1 hP)
  · subst hn; exact stepG (fun T locs X _ _ z => XS.ifNo X.here C.1 rfl (hb C.2.2.1 hd) rfl ((if0 _ _).trans (q.2.1 hP)) z) (g2 hP)
/-- lcmp and the branch behind it -/
theorem lcif (C : Cx p s m meth c Z n0 own bytes ml ret) {cd : ClassFile.Cond} {o : Int} {x y : Int64} {pm : Nat} (hd0 : decode bytes pc = .ok (.lcmp, 1)) (hm : pc + 1 = pm) (hd : decode bytes pm = .ok (.ifCond cd o, 3)) (ho : 0 ≤ (pm : Int) + o) (hp : ((pm : Int) + o).toNat = pc') (hn : pm + 3 = pn)
    {P P' : Prop} (q : (P → if_icmp.holds cd (lcmpW x y) 0 = true) ∧ (P' → if_icmp.holds cd (lcmpW x y) 0 = false) ∧ (P ∨ P'))
    (g1 : P → Go p l e R s m args below meth c Y n0 G h k n (mkF m pc' Ls S)) (g2 : P' → Go p l e R s m args below meth c Y n0 G h k n (mkF m pn Ls S)) : Go p l e R s m args below meth c Y n0 G h k n (mkF m pc Ls (.long y :: .long x :: S)) := by
  subst hm
  exact stepG (fun T locs X _ _ z => XS.lcmp X.here C.1 rfl (hb C.2.2.1 hd0) rfl z) (ifc C hd ho hp hn q g1 g2)
theorem q_lt (x y : Int32) : (x.toInt < y.toInt → if_icmp.holds .lt x y = true) ∧ (y.toInt ≤ x.toInt → if_icmp.holds .lt x y = false) ∧ (x.toInt < y.toInt ∨ y.toInt ≤ x.toInt) :=
  ⟨fun q => (tlt (Int32.lt_iff_toInt_lt.mpr q)).1, fun q => (flt (fun w => absurd (Int32.lt_iff_toInt_lt.mp w) (Int.not_lt.mpr q))).1, Int.lt_or_le _ _⟩
theorem q_ge (x y : Int32) : (y.toInt ≤ x.toInt → if_icmp.holds .ge x y = true) ∧ (x.toInt < y.toInt → if_icmp.holds .ge x y = false) ∧ (y.toInt ≤ x.toInt ∨ x.toInt < y.toInt) :=
  ⟨fun q => (flt (fun w => absurd (Int32.lt_iff_toInt_lt.mp w) (Int.not_lt.mpr q))).2.1, fun q => (tlt (Int32.lt_iff_toInt_lt.mpr q)).2.1, (Int.lt_or_le _ _).symm⟩
theorem q_gt (x y : Int32) : (y.toInt < x.toInt → if_icmp.holds .gt x y = true) ∧ (x.toInt ≤ y.toInt → if_icmp.holds .gt x y = false) ∧ (y.toInt < x.toInt ∨ x.toInt ≤ y.toInt) :=
  ⟨fun q => (tlt (Int32.lt_iff_toInt_lt.mpr q)).2.2.1, fun q => (flt (fun w => absurd (Int32.lt_iff_toInt_lt.mp w) (Int.not_lt.mpr q))).2.2.1, Int.lt_or_le _ _⟩
theorem q_le (x y : Int32) : (x.toInt ≤ y.toInt → if_icmp.holds .le x y = true) ∧ (y.toInt < x.toInt → if_icmp.holds .le x y = false) ∧ (x.toInt ≤ y.toInt ∨ y.toInt < x.toInt) :=
  ⟨fun q => (flt (fun w => absurd (Int32.lt_iff_toInt_lt.mp w) (Int.not_lt.mpr q))).2.2.2, fun q => (tlt (Int32.lt_iff_toInt_lt.mpr q)).2.2.2, (Int.lt_or_le _ _).symm⟩
theorem q_eq (x y : Int32) : (x = y → if_icmp.holds .eq x y = true) ∧ (¬ x = y → if_icmp.holds .eq x y = false) ∧ (x = y ∨ ¬ x = y) := ⟨fun q => (teq q).1, fun q => (feq q).1, Classical.em _⟩
theorem q_ne (x y : Int32) : (¬ x = y → if_icmp.holds .ne x y = true) ∧ (x = y → if_icmp.holds .ne x y = false) ∧ (¬ x = y ∨ x = y) := ⟨fun q => (feq q).2, fun q => (teq q).2, (Classical.em _).symm⟩
theorem ql_lt (x y : Int64) : (x.toInt < y.toInt → if_icmp.holds .lt (lcmpW x y) 0 = true) ∧ (y.toInt ≤ x.toInt → if_icmp.holds .lt (lcmpW x y) 0 = false) ∧ (x.toInt < y.toInt ∨ y.toInt ≤ x.toInt) :=
  ⟨fun q => (tlt ((lw_lt x y).mpr (Int64.lt_iff_toInt_lt.mpr q))).1, fun q => (flt (fun w => absurd (Int64.lt_iff_toInt_lt.mp ((lw_lt x y).mp w)) (Int.not_lt.mpr q))).1, Int.lt_or_le _ _⟩
theorem ql_ge (x y : Int64) : (y.toInt ≤ x.toInt → if_icmp.holds .ge (lcmpW x y) 0 = true) ∧ (x.toInt < y.toInt → if_icmp.holds .ge (lcmpW x y) 0 = false) ∧ (y.toInt ≤ x.toInt ∨ x.toInt < y.toInt) :=
  ⟨fun q => (flt (fun w => absurd (Int64.lt_iff_toInt_lt.mp ((lw_lt x y).mp w)) (Int.not_lt.mpr q))).2.1, fun q => (tlt ((lw_lt x y).mpr (Int64.lt_iff_toInt_lt.mpr q))).2.1, (Int.lt_or_le _ _).symm⟩
theorem ql_gt (x y : Int64) : (y.toInt < x.toInt → if_icmp.holds .gt (lcmpW x y) 0 = true) ∧ (x.toInt ≤ y.toInt → if_icmp.holds .gt (lcmpW x y) 0 = false) ∧ (y.toInt < x.toInt ∨ x.toInt ≤ y.toInt) :=
  ⟨fun q => (tlt ((lw_gt x y).mpr (Int64.lt_iff_toInt_lt.mpr q))).2.2.1, fun q => (flt (fun w => absurd (Int64.lt_iff_toInt_lt.mp ((lw_gt x y).mp w)) (Int.not_lt.mpr q))).2.2.1, Int.lt_or_le _ _⟩
theorem ql_le (x y : Int64) : (x.toInt ≤ y.toInt → if_icmp.holds .le (lcmpW x y) 0 = true) ∧ (y.toInt < x.toInt → if_icmp.holds .le (lcmpW x y) 0 = false) ∧ (x.toInt ≤ y.toInt ∨ y.toInt < x.toInt) :=
  ⟨fun q => (flt (fun w => absurd (Int64.lt_iff_toInt_lt.mp ((lw_gt x y).mp w)) (Int.not_lt.mpr q))).2.2.2, fun q => (tlt ((lw_gt x y).mpr (Int64.lt_iff_toInt_lt.mpr q))).2.2.2, (Int.lt_or_le _ _).symm⟩
theorem ql_eq (x y : Int64) : (x = y → if_icmp.holds .eq (lcmpW x y) 0 = true) ∧ (¬ x = y → if_icmp.holds .eq (lcmpW x y) 0 = false) ∧ (x = y ∨ ¬ x = y) := ⟨fun q => (teq ((lw_eq x y).mpr q)).1, fun q => (feq (fun w => q ((lw_eq x y).mp w))).1, Classical.em _⟩
theorem ql_ne (x y : Int64) : (¬ x = y → if_icmp.holds .ne (lcmpW x y) 0 = true) ∧ (x = y → if_icmp.holds .ne (lcmpW x y) 0 = false) ∧ (¬ x = y ∨ x = y) := ⟨fun q => (feq (fun w => q ((lw_eq x y).mp w))).2, fun q => (teq ((lw_eq x y).mpr q)).2, (Classical.em _).symm⟩

theorem acmp (C : Cx p s m meth c Z n0 own bytes ml ret) {cd : ACond} {o : Int} {x y : Value} (h1 : x.isRef = true) (h2 : y.isRef = true) (hd : decode bytes pc = .ok (.if_acmp cd o, 3)) (ho : 0 ≤ (pc : Int) + o) (hp : ((pc : Int) + o).toNat = pc') (hn : pc + 3 = pn)
    {P P' : Prop} (q : (P → acV cd (decide (x = y)) = true) ∧ (P' → acV cd (decide (x = y)) = false) ∧ (P ∨ P'))
    (g1 : P → Go p l e R s m args below meth c Y n0 G h k n (mkF m pc' Ls S)) (g2 : P' → Go p l e R s m args below meth c Y n0 G h k n (mkF m pn Ls S)) : Go p l e R s m args below meth c Y n0 G h k n (mkF m pc Ls (y :: x :: S)) := by
  rcases q.2.2 with hP | hP
  · exact stepG (fun T locs X _ _ z => Jvm.RoadKit.acmp (g := mkF m pc Ls (y :: x :: S)) X C.1 rfl h1 h2 (pc0 := pc) (pc' := pc') (same := decide (x = y)) rfl (hb C.2.2.1 hd) rfl rfl ho (by rw [q.1 hP]; exact hp.symm) z) (g1 hP)
  · exact stepG (fun T locs X _ _ z => Jvm.RoadKit.acmp (g := mkF m pc Ls (y :: x :: S)) X C.1 rfl h1 h2 (pc0 := pc) (pc' := pn) (same := decide (x = y)) rfl (hb C.2.2.1 hd) rfl rfl ho (by rw [q.2.1 hP]; exact hn.symm) z) (g2 hP)
theorem qa_eq (a b : Addr) : (a = b → acV .eq (decide (Value.ref a = Value.ref b)) = true) ∧ (¬ a = b → acV .eq (decide (Value.ref a = Value.ref b)) = false) ∧ (a = b ∨ ¬ a = b) :=
  ⟨fun q => decide_eq_true (congrArg Value.ref q), fun q => decide_eq_false fun z => q (Value.ref.inj z), Classical.em _⟩
theorem qa_ne (a b : Addr) : (¬ a = b → acV .ne (decide (Value.ref a = Value.ref b)) = true) ∧ (a = b → acV .ne (decide (Value.ref a = Value.ref b)) = false) ∧ (¬ a = b ∨ a = b) :=
  ⟨fun q => by rw [decide_eq_false fun z => q (Value.ref.inj z)]; rfl, fun q => by rw [decide_eq_true (congrArg Value.ref q)]; rfl, (Classical.em _).symm⟩
theorem ifnullT (C : Cx p s m meth c Z n0 own bytes ml ret) {o : Int} (hd : decode bytes pc = .ok (.ifnull o, 3)) (ho : 0 ≤ (pc : Int) + o) (hp : ((pc : Int) + o).toNat = pc')
    (g : Go p l e R s m args below meth c Y n0 G h k n (mkF m pc' Ls S)) : Go p l e R s m args below meth c Y n0 G h k n (mkF m pc Ls (.null :: S)) := stepG (fun T locs X _ _ z => XS.ifnullYes X.here C.1 rfl (pc0 := pc) rfl (hb C.2.2.1 hd) rfl ho hp z) g
theorem ifnullF (C : Cx p s m meth c Z n0 own bytes ml ret) {o : Int} {a : Addr} (hd : decode bytes pc = .ok (.ifnull o, 3)) (hp : pc + 3 = pc')
    (g : Go p l e R s m args below meth c Y n0 G h k n (mkF m pc' Ls S)) : Go p l e R s m args below meth c Y n0 G h k n (mkF m pc Ls (.ref a :: S)) := by subst hp; exact stepG (fun T locs X _ _ z => XS.ifnullNo X.here C.1 rfl (hb C.2.2.1 hd) rfl z) g
theorem ifnonnullT (C : Cx p s m meth c Z n0 own bytes ml ret) {o : Int} {a : Addr} (hd : decode bytes pc = .ok (.ifnonnull o, 3)) (ho : 0 ≤ (pc : Int) + o) (hp : ((pc : Int) + o).toNat = pc')
    (g : Go p l e R s m args below meth c Y n0 G h k n (mkF m pc' Ls S)) : Go p l e R s m args below meth c Y n0 G h k n (mkF m pc Ls (.ref a :: S)) := stepG (fun T locs X _ _ z => XS.ifnonnullYes X.here C.1 rfl (pc0 := pc) rfl (hb C.2.2.1 hd) rfl ho hp z) g
theorem ifnonnullF (C : Cx p s m meth c Z n0 own bytes ml ret) {o : Int} (hd : decode bytes pc = .ok (.ifnonnull o, 3)) (hp : pc + 3 = pc')
    (g : Go p l e R s m args below meth c Y n0 G h k n (mkF m pc' Ls S)) : Go p l e R s m args below meth c Y n0 G h k n (mkF m pc Ls (.null :: S)) := by subst hp; exact stepG (fun T locs X _ _ z => XS.ifnonnullNo X.here C.1 rfl (hb C.2.2.1 hd) rfl z) g

/-! returns -/
theorem retZ {t : FieldType} (C : Cx p s m meth c Z n0 own bytes ml (some t)) {z w : Int32} (ht : t = .boolean ∨ t = .byte ∨ t = .char ∨ t = .short) (hd : decode bytes pc = .ok (.ireturn, 1)) (hv : nar t z = w) (hk : k ≤ K) (hn : n ≤ N) (hY : ∀ s₂ o L, s₂.heap = h → FrameEnd s o s₂ L K N → Y s₂ o L) (g : G (some (.int w)) h) :
    Go p l e R s m args below meth c Y n0 G h k n (mkF m pc Ls (.int z :: S)) := fun T ⟨locs, F, X, eT⟩ => by
  subst hv eT
  have hlk : meth.locks = false := C.2.2.2.2.2.2.1
  obtain ⟨fs, hr, hrun, hended, hW, hsame⟩ := X.leave (v := some (.int (nar t z))) (fun q => by rw [C.2.2.2.2.2.1] at q; cases q) hlk
  exact ⟨_, _, retN X C.1 (t := t) C.2.2.2.2.2.1 ht (hb C.2.2.1 hd) hr, hrun, hended, _, _, rfl, ⟨g, F⟩, hY _ _ _ rfl ⟨⟨_, rfl⟩, hW, hsame.mono hk hn⟩⟩
theorem retV {t : FieldType} (C : Cx p s m meth c Z n0 own bytes ml (some t)) {w : Value} {i : Instr} (hv : narrow t w = w)
    (hi : (i = .ireturn ∧ (t = .int ∨ t = .boolean ∨ t = .byte ∨ t = .char ∨ t = .short) ∧ ∃ z, w = .int z) ∨ (i = .lreturn ∧ t = .long ∧ ∃ z, w = .long z) ∨ (i = .dreturn ∧ t = .double ∧ ∃ z, w = .double z) ∨ (i = .freturn ∧ t = .float ∧ ∃ z, w = .float z) ∨ (i = .areturn ∧ t.isReference = true ∧ w.isRef = true))
    (hd : decode bytes pc = .ok (i, 1)) (hk : k ≤ K) (hn : n ≤ N) (hY : ∀ s₂ o L, s₂.heap = h → FrameEnd s o s₂ L K N → Y s₂ o L) (g : G (some w) h) :
    Go p l e R s m args below meth c Y n0 G h k n (mkF m pc Ls (w :: S)) := fun T ⟨locs, F, X, eT⟩ => by
  subst eT
  have hlk : meth.locks = false := C.2.2.2.2.2.2.1
  obtain ⟨fs, hr, hrun, hended, hW, hsame⟩ := X.leave (v := some w) (fun q => by rw [C.2.2.2.2.2.1] at q; cases q) hlk
  exact ⟨_, _, retOut X C.1 (t := t) C.2.2.2.2.2.1 hv hi (hb C.2.2.1 hd) hr, hrun, hended, _, _, rfl, ⟨g, F⟩, hY _ _ _ rfl ⟨⟨_, rfl⟩, hW, hsame.mono hk hn⟩⟩
theorem retI (C : Cx p s m meth c Z n0 own bytes ml (some .int)) {z : Int32} (hd : decode bytes pc = .ok (.ireturn, 1)) (hk : k ≤ K) (hn : n ≤ N) (hY : ∀ s₂ o L, s₂.heap = h → FrameEnd s o s₂ L K N → Y s₂ o L) (g : G (some (.int z)) h) :
    Go p l e R s m args below meth c Y n0 G h k n (mkF m pc Ls (.int z :: S)) := retV C rfl (Or.inl ⟨rfl, Or.inl rfl, _, rfl⟩) hd hk hn hY g
theorem retL (C : Cx p s m meth c Z n0 own bytes ml (some .long)) {z : Int64} (hd : decode bytes pc = .ok (.lreturn, 1)) (hk : k ≤ K) (hn : n ≤ N) (hY : ∀ s₂ o L, s₂.heap = h → FrameEnd s o s₂ L K N → Y s₂ o L) (g : G (some (.long z)) h) :
    Go p l e R s m args below meth c Y n0 G h k n (mkF m pc Ls (.long z :: S)) := retV C rfl (Or.inr (Or.inl ⟨rfl, rfl, _, rfl⟩)) hd hk hn hY g
theorem retA {t : FieldType} (C : Cx p s m meth c Z n0 own bytes ml (some t)) {w : Value} (ht : t.isReference = true) (hw : w.isRef = true) (hn' : narrow t w = w) (hd : decode bytes pc = .ok (.areturn, 1)) (hk : k ≤ K) (hn : n ≤ N) (hY : ∀ s₂ o L, s₂.heap = h → FrameEnd s o s₂ L K N → Y s₂ o L) (g : G (some w) h) :
    Go p l e R s m args below meth c Y n0 G h k n (mkF m pc Ls (w :: S)) := retV C hn' (Or.inr (Or.inr (Or.inr (Or.inr ⟨rfl, ht, hw⟩)))) hd hk hn hY g
theorem ret0 (C : Cx p s m meth c Z n0 own bytes ml none) (hd : decode bytes pc = .ok (.return_, 1)) (hk : k ≤ K) (hn : n ≤ N) (hY : ∀ s₂ o L, s₂.heap = h → FrameEnd s o s₂ L K N → Y s₂ o L) (g : G none h) :
    Go p l e R s m args below meth c Y n0 G h k n (mkF m pc Ls []) := fun T ⟨locs, F, X, eT⟩ => by
  subst eT
  have hlk : meth.locks = false := C.2.2.2.2.2.2.1
  obtain ⟨fs, hr, hrun, hended, hW, hsame⟩ := X.leave (v := none) (fun _ => rfl) hlk
  exact ⟨_, _, X.returnOut C.1 C.2.2.2.2.2.1 (hb C.2.2.1 hd) hr, hrun, hended, _, _, rfl, ⟨g, F⟩, hY _ _ _ rfl ⟨⟨_, rfl⟩, hW, hsame.mono hk hn⟩⟩

theorem hz (C : Cx p s m meth c Z n0 own bytes ml ret) {T : State} {locs : List Loc} (X : Stand p l e R s m args below meth c T locs k n) (eT : T.heap = h) : n0 ≤ h.size := eT ▸ Nat.le_trans C.2.2.2.2.2.2.2 X.same.2.1
/-! calls -/
theorem callS (C : Cx p s m meth c Z n0 own bytes ml ret) {i : Nat} {y : MethodName} {b' : ByteArray} {mL : Nat} {r' : Option FieldType} {rm : Room} {Gc : Option Value → Heap → Prop} {argsL rest : List Value} {W : Nat}
    (w1 : (Cond.methodLink own i y).before a0 Z = true) (w2 : (Cond.static y).before a0 Z = true) (w3 : (Cond.initialized y.cls).before a0 Z = true) (w4 : (Cond.code y b' mL r').before a0 Z = true)
    (hy : y.cls ≠ "java/lang/invoke/MethodHandle" ∧ y.cls ≠ "java/lang/invoke/VarHandle") (con : n0 ≤ h.size → Con l Z y b' mL r' [] rm rm.cells rm.slots argsL.toArray h n0 Gc)
    (hd : decode bytes pc = .ok (.invokestatic i, 3)) (hp : pc + 3 = pc') (hsz : Ls.size = ml) {ps : List FieldType} {rr : Option FieldType} (hds : parseMethodDescriptor y.desc = some ⟨ps, rr⟩) (hlen : argsL.length = ps.length)
    (hS : S = argsL.reverse ++ rest) (hW : (rest.map fun v => v.category).sum = W) (hf : rm.frames + 1 ≤ R.frames) (hl : W + (mL + 11) + rm.locals ≤ R.locals) (hc : k + rm.cells ≤ R.cells) (hs : n + rm.slots ≤ R.slots) {k' n' : Nat} (hk' : k + rm.cells = k') (hn' : n + rm.slots = n')
    (g : ∀ h' v, Gc v h' → Go p l e R s m args below meth c Y n0 G h' k' n' (mkF m pc' Ls (v.toList ++ rest))) :
    Go p l e R s m args below meth c Y n0 G h k n (mkF m pc Ls S) := fun T ⟨locs, F, X, eT⟩ => by
  subst hp hS hk' hn'
  obtain ⟨v, _, ⟨T', L', k', n'⟩, -, X', ⟨Lc, ⟨hQ, hF⟩, l1, y1, z1⟩, st⟩ := Jvm.LawKit.callS X C.1 C.2.2.2.2.1 (mvT C.2.1 w1) (mvT C.2.1 w2) (mvT C.2.1 w3) (mvT C.2.1 w4) hy
    (backOf (W := W) (Q := fun v h L => Gc v h ∧ Fr n0 L) (con (hz C X eT)) C.2.1 w4 w3 hf hl) (g := mkF m pc Ls (argsL.reverse ++ rest)) rfl (hsz.trans C.2.2.2.1.symm) (argsL := argsL) (rest := rest) (lenOf hds hlen) rfl (by show 2 * 0 + _ ≤ _; rw [Nat.mul_zero, Nat.zero_add]; exact Nat.le_of_eq hW) (hb C.2.2.1 hd) (fun _ _ => ⟨rfl, eT, hc, hs⟩)
  dsimp only [Pt.U, Pt.locs, Pt.cells, Pt.slots] at X' l1 y1 z1 st hQ
  subst l1 y1 z1
  exact step (fun t q => st t q) (g T'.heap v hQ T' ⟨_, Fr.app F hF, X', rfl⟩)
theorem callSp (C : Cx p s m meth c Z n0 own bytes ml ret) {i : Nat} {y : MethodName} {b' : ByteArray} {mL : Nat} {rm : Room} {Gc : Option Value → Heap → Prop} {a : Addr} {argsL rest : List Value} {W : Nat} (hy1 : y.name = "<init>")
    (w1 : (Cond.methodLink own i y).before a0 Z = true) (w2 : (Cond.instanceMethod y).before a0 Z = true) (w3 : (Cond.initialized y.cls).before a0 Z = true) (w4 : (Cond.code y b' mL none).before a0 Z = true)
    (hy : y.cls ≠ "java/lang/invoke/MethodHandle" ∧ y.cls ≠ "java/lang/invoke/VarHandle") (con : n0 ≤ h.size → Con l Z y b' mL none [] rm rm.cells rm.slots (.ref a :: argsL).toArray h n0 Gc)
    (hd : decode bytes pc = .ok (.invokespecial i, 3)) (hp : pc + 3 = pc') (hsz : Ls.size = ml) {ps : List FieldType} {rr : Option FieldType} (hds : parseMethodDescriptor y.desc = some ⟨ps, rr⟩) (hlen : argsL.length = ps.length)
    (hS : S = argsL.reverse ++ .ref a :: rest) (hW : (rest.map fun v => v.category).sum = W) (hf : rm.frames + 1 ≤ R.frames) (hl : W + (mL + 11) + rm.locals ≤ R.locals) (hc : k + rm.cells ≤ R.cells) (hs : n + rm.slots ≤ R.slots) {k' n' : Nat} (hk' : k + rm.cells = k') (hn' : n + rm.slots = n')
    (g : ∀ h' v, Gc v h' → Go p l e R s m args below meth c Y n0 G h' k' n' (mkF m pc' Ls (v.toList ++ rest))) :
    Go p l e R s m args below meth c Y n0 G h k n (mkF m pc Ls S) := fun T ⟨locs, F, X, eT⟩ => by
  subst hp hS hk' hn'
  obtain ⟨v, _, ⟨T', L', k', n'⟩, -, X', ⟨Lc, ⟨hQ, hF⟩, l1, y1, z1⟩, st⟩ := X.specialBack C.1 hy1 C.2.2.2.2.1 (mvT C.2.1 w1) (mvT C.2.1 w2) (mvT C.2.1 w4) hy
    (backOf (W := W) (Q := fun v h L => Gc v h ∧ Fr n0 L) (con (hz C X eT)) C.2.1 w4 w3 hf hl) (g := mkF m pc Ls (argsL.reverse ++ .ref a :: rest)) rfl (hsz.trans C.2.2.2.1.symm) (Steps.refl _) (a := a) (argsL := argsL) (rest := rest) (lenOf hds hlen) rfl (by show 2 * 0 + _ ≤ _; rw [Nat.mul_zero, Nat.zero_add]; exact Nat.le_of_eq hW) (hb C.2.2.1 hd) (fun _ _ => ⟨rfl, eT, hc, hs⟩)
  dsimp only [Pt.U, Pt.locs, Pt.cells, Pt.slots] at X' l1 y1 z1 st hQ
  subst l1 y1 z1
  exact step (fun t q => st.trans q) (g T'.heap v hQ T' ⟨_, Fr.app F hF, X', rfl⟩)
theorem callV (C : Cx p s m meth c Z n0 own bytes ml ret) {i : Nat} {y z : MethodName} {b' : ByteArray} {mL : Nat} {r' : Option FieldType} {rm : Room} {Gc : Option Value → Heap → Prop} {a : Addr} {argsL rest : List Value} {W : Nat} {Cn : String}
    (w1 : (Cond.methodLink own i y).before a0 Z = true) (w2 : (Cond.declares y).before a0 Z = true) (hnf : NotFace s y) (w5 : (Cond.selects Cn y z).before a0 Z = true) (w6 : (Cond.instanceMethod z).before a0 Z = true) (w3 : (Cond.initialized z.cls).before a0 Z = true) (w4 : (Cond.code z b' mL r').before a0 Z = true)
    (hy : y.cls ≠ "java/lang/invoke/MethodHandle" ∧ y.cls ≠ "java/lang/invoke/VarHandle") (E : Exa Z h a Cn) (con : n0 ≤ h.size → Con l Z z b' mL r' [] rm rm.cells rm.slots (.ref a :: argsL).toArray h n0 Gc)
    (hd : decode bytes pc = .ok (.invokevirtual i, 3)) (hp : pc + 3 = pc') (hsz : Ls.size = ml) {ps : List FieldType} {rr : Option FieldType} (hds : parseMethodDescriptor y.desc = some ⟨ps, rr⟩) (hlen : argsL.length = ps.length)
    (hS : S = argsL.reverse ++ .ref a :: rest) (hW : (rest.map fun v => v.category).sum = W) (hf : rm.frames + 1 ≤ R.frames) (hl : W + (mL + 11) + rm.locals ≤ R.locals) (hc : k + rm.cells ≤ R.cells) (hs : n + rm.slots ≤ R.slots) {k' n' : Nat} (hk' : k + rm.cells = k') (hn' : n + rm.slots = n')
    (g : ∀ h' v, Gc v h' → Go p l e R s m args below meth c Y n0 G h' k' n' (mkF m pc' Ls (v.toList ++ rest))) :
    Go p l e R s m args below meth c Y n0 G h k n (mkF m pc Ls S) := fun T ⟨locs, F, X, eT⟩ => by
  subst hp hS hk' hn'
  obtain ⟨cq, kq, qa, qb, qc⟩ := isOf C.2.1 eT E
  obtain ⟨v, _, ⟨T', L', k', n'⟩, -, X', ⟨Lc, ⟨hQ, hF⟩, l1, y1, z1⟩, st⟩ := X.virtualBack C.1 C.2.2.2.2.1 (mvT C.2.1 w1) (mvT C.2.1 w2) hnf (mvT C.2.1 w5) (mvT C.2.1 w6) hy
    (backOf (W := W) (Q := fun v h L => Gc v h ∧ Fr n0 L) (con (hz C X eT)) C.2.1 w4 w3 hf hl) qa qc (g := mkF m pc Ls (argsL.reverse ++ .ref a :: rest)) rfl (hsz.trans C.2.2.2.1.symm) (Steps.refl _) (argsL := argsL) (rest := rest) (lenOf hds hlen) rfl (by show 2 * 0 + _ ≤ _; rw [Nat.mul_zero, Nat.zero_add]; exact Nat.le_of_eq hW) (hb C.2.2.1 hd) (fun _ _ => ⟨rfl, eT, hc, hs⟩)
  dsimp only [Pt.U, Pt.locs, Pt.cells, Pt.slots] at X' l1 y1 z1 st hQ
  subst l1 y1 z1
  exact step (fun t q => st.trans q) (g T'.heap v hQ T' ⟨_, Fr.app F hF, X', rfl⟩)
theorem callI (C : Cx p s m meth c Z n0 own bytes ml ret) {i cnt : Nat} {y z : MethodName} {b' : ByteArray} {mL : Nat} {r' : Option FieldType} {rm : Room} {Gc : Option Value → Heap → Prop} {a : Addr} {argsL rest : List Value} {W : Nat} {Cn : String}
    (w1 : (Cond.methodLink own i y).before a0 Z = true) (w2 : (Cond.declares y).before a0 Z = true) (w7 : (Cond.interfaceMethod y.cls y.cls y.name y.desc).before a0 Z = true) (w5 : (Cond.selects Cn y z).before a0 Z = true) (w6 : (Cond.instanceMethod z).before a0 Z = true) (w8 : (Cond.publicMethod z).before a0 Z = true) (w9 : (Cond.unhidden Cn y.name y.desc).before a0 Z = true) (w10 : (Cond.castable Cn y.cls).before a0 Z = true)
    (w3 : (Cond.initialized z.cls).before a0 Z = true) (w4 : (Cond.code z b' mL r').before a0 Z = true)
    (hy : y.cls ≠ "java/lang/invoke/MethodHandle" ∧ y.cls ≠ "java/lang/invoke/VarHandle") (E : Exa Z h a Cn) (con : n0 ≤ h.size → Con l Z z b' mL r' [] rm rm.cells rm.slots (.ref a :: argsL).toArray h n0 Gc)
    (hd : decode bytes pc = .ok (.invokeinterface i cnt, 5)) (hp : pc + 5 = pc') (hsz : Ls.size = ml) {ps : List FieldType} {rr : Option FieldType} (hds : parseMethodDescriptor y.desc = some ⟨ps, rr⟩) (hlen : argsL.length = ps.length)
    (hS : S = argsL.reverse ++ .ref a :: rest) (hW : (rest.map fun v => v.category).sum = W) (hf : rm.frames + 1 ≤ R.frames) (hl : W + (mL + 11) + rm.locals ≤ R.locals) (hc : k + rm.cells ≤ R.cells) (hs : n + rm.slots ≤ R.slots) {k' n' : Nat} (hk' : k + rm.cells = k') (hn' : n + rm.slots = n')
    (g : ∀ h' v, Gc v h' → Go p l e R s m args below meth c Y n0 G h' k' n' (mkF m pc' Ls (v.toList ++ rest))) :
    Go p l e R s m args below meth c Y n0 G h k n (mkF m pc Ls S) := fun T ⟨locs, F, X, eT⟩ => by
  subst hp hS hk' hn'
  obtain ⟨cq, kq, qa, qb, qc⟩ := isOf C.2.1 eT E
  obtain ⟨v, _, ⟨T', L', k', n'⟩, -, X', ⟨Lc, ⟨hQ, hF⟩, l1, y1, z1⟩, st⟩ := X.interfaceBack C.1 C.2.2.2.2.1 (mvT C.2.1 w1) (mvT C.2.1 w2) (mvT C.2.1 w7 (by simp [Cond.onTables, Cond.keepsFace, Cond.keeps, Cond.steady, Cond.faceAtom, hy.1, hy.2])) (mvT C.2.1 w5) (mvT C.2.1 w6) (mvT C.2.1 w8) (mvT C.2.1 w9) (mvT C.2.1 w10) hy
    (backOf (W := W) (Q := fun v h L => Gc v h ∧ Fr n0 L) (con (hz C X eT)) C.2.1 w4 w3 hf hl) qa qb qc (g := mkF m pc Ls (argsL.reverse ++ .ref a :: rest)) rfl (hsz.trans C.2.2.2.1.symm) (Steps.refl _) (argsL := argsL) (rest := rest) (lenOf hds hlen) rfl (by show 2 * 0 + _ ≤ _; rw [Nat.mul_zero, Nat.zero_add]; exact Nat.le_of_eq hW) (hb C.2.2.1 hd) (fun _ _ => ⟨rfl, eT, hc, hs⟩)
  dsimp only [Pt.U, Pt.locs, Pt.cells, Pt.slots] at X' l1 y1 z1 st hQ
  subst l1 y1 z1
  exact step (fun t q => st.trans q) (g T'.heap v hQ T' ⟨_, Fr.app F hF, X', rfl⟩)
/-- a private method by invokevirtual: no 'selects' word is wanted; the class is instantiable -/
theorem callP (C : Cx p s m meth c Z n0 own bytes ml ret) {i q : Nat} {y : MethodName} {b' : ByteArray} {mL : Nat} {r' : Option FieldType} {rm : Room} {Gc : Option Value → Heap → Prop} {a : Addr} {argsL rest : List Value} {W : Nat} {Cn : String}
    (w1 : (Cond.methodLink own i y).before a0 Z = true) (w6 : (Cond.instanceMethod y).before a0 Z = true) (w7 : (Cond.privateMethod y).before a0 Z = true) (w8 : (Cond.instantiable y.cls q).before a0 Z = true) (w3 : (Cond.initialized y.cls).before a0 Z = true) (w4 : (Cond.code y b' mL r').before a0 Z = true)
    (hy : y.cls ≠ "java/lang/invoke/MethodHandle" ∧ y.cls ≠ "java/lang/invoke/VarHandle") (E : Exa Z h a Cn) (con : n0 ≤ h.size → Con l Z y b' mL r' [] rm rm.cells rm.slots (.ref a :: argsL).toArray h n0 Gc)
    (hd : decode bytes pc = .ok (.invokevirtual i, 3)) (hp : pc + 3 = pc') (hsz : Ls.size = ml) {ps : List FieldType} {rr : Option FieldType} (hds : parseMethodDescriptor y.desc = some ⟨ps, rr⟩) (hlen : argsL.length = ps.length)
    (hS : S = argsL.reverse ++ .ref a :: rest) (hW : (rest.map fun v => v.category).sum = W) (hf : rm.frames + 1 ≤ R.frames) (hl : W + (mL + 11) + rm.locals ≤ R.locals) (hc : k + rm.cells ≤ R.cells) (hs : n + rm.slots ≤ R.slots) {k' n' : Nat} (hk' : k + rm.cells = k') (hn' : n + rm.slots = n')
    (g : ∀ h' v, Gc v h' → Go p l e R s m args below meth c Y n0 G h' k' n' (mkF m pc' Ls (v.toList ++ rest))) :
    Go p l e R s m args below meth c Y n0 G h k n (mkF m pc Ls S) := fun T ⟨locs, F, X, eT⟩ => by
  subst hp hS hk' hn'
  obtain ⟨cell, hc1, hc2⟩ := E.cell
  obtain ⟨mk, methM, hnamed, hmethM, hstM, habM⟩ := Cond.instanceMethod_spec (mvT (args := args) C.2.1 w6)
  obtain ⟨methM', cM, hmethM', -, -, -, -, -, -, hsigM⟩ := Cond.code_spec hnamed (mvT (args := args) C.2.1 w4)
  cases hmethM.symm.trans hmethM'
  obtain ⟨cid, kP, z1, z2, z3, z4, -⟩ := Cond.instantiable_spec (mvT (args := args) C.2.1 w8)
  have z5 : cid = mk.cls := Option.some.inj (z1.symm.trans (findClass_of_methodNamed hnamed))
  subst z5
  have z6 : kP.isInterface = false := by simp only [Bool.or_eq_false_iff] at z4; exact z4.1
  obtain ⟨vm₁, X₁, hstep₁⟩ := X.invokevirtual C.1 C.2.2.2.2.1 (mvT C.2.1 w1) hnamed hmethM hstM z2 z6 hy (a := a) (cell := cell) (by rw [eT]; exact hc1) hc2 (selectMethod_private hmethM (Cond.privateMethod_at (mvP C.2.1 w7 (args := #[])) mk methM hnamed hmethM)) hmethM habM z2 z6 (g := mkF m pc Ls (argsL.reverse ++ .ref a :: rest)) rfl (argsL := argsL) (rest := rest) (lenOf hds hlen _ hsigM) rfl (hb C.2.2.1 hd)
  obtain ⟨v, ⟨T', L', k', n'⟩, X', ⟨Lc, ⟨hQ, hF⟩, l1, y1, z1⟩, hsteps⟩ := (backOf (W := W) (len := 3) (Q := fun v h L => Gc v h ∧ Fr n0 L) (con (hz C X eT)) C.2.1 w4 w3 hf hl) m meth c ⟨T.setVm vm₁, locs, k, n⟩ (mkF m pc Ls rest) (.invokevirtual i) mk (.ref a :: argsL).toArray X₁ rfl (hsz.trans C.2.2.2.1.symm) (hb C.2.2.1 hd) (by show 2 * 0 + _ ≤ _; rw [Nat.mul_zero, Nat.zero_add]; exact Nat.le_of_eq hW) (X₁.named hnamed) ⟨rfl, eT, hc, hs⟩
  dsimp only [Pt.U, Pt.locs, Pt.cells, Pt.slots] at X' l1 y1 z1 hsteps hQ
  subst l1 y1 z1
  exact step (fun t q => (hstep₁ _ fun acts => by rw [doInvoke_state]; exact hsteps).trans q) (g T'.heap v hQ T' ⟨_, Fr.app F hF, X', rfl⟩)
theorem arraycopy (C : Cx p s m meth c Z n0 own bytes ml ret) {i : Nat} {a b : Addr} {ka kb : ClassId} {ty : FieldType} {za zb sp dp nn : Int32} {vs vd : List Value} {dv dd : Value} {W : Nat}
    (w1 : (Cond.methodLink own i Jvm.Stand.acN).before a0 Z = true) (w2 : (Cond.native Jvm.Stand.acN).before a0 Z = true) (w3 : (Cond.static Jvm.Stand.acN).before a0 Z = true) (w4 : (Cond.initialized "java/lang/System").before a0 Z = true)
    (A : Arv Z h a ka ty za vs dv) (B : Arv Z h b kb ty zb vd dd) (hty : refKind ty = false) (h1 : 0 ≤ sp.toInt) (h2 : 0 ≤ dp.toInt) (h3 : 0 ≤ nn.toInt) (h4 : sp.toInt + nn.toInt ≤ za.toInt) (h5 : dp.toInt + nn.toInt ≤ zb.toInt) (hl : dp.toInt.toNat + nn.toInt.toNat ≤ vd.length) (ge : n0 ≤ b)
    (hd : decode bytes pc = .ok (.invokestatic i, 3)) (hp : pc + 3 = pc') (hsz : Ls.size = ml) (hf : 1 ≤ R.frames) (hW : (S.map fun v => v.category).sum = W) (hlo : W + 18 ≤ R.locals)
    (g : ∀ h', Keep h h' [b] → Arv Z h' b kb ty zb (vd.take dp.toInt.toNat ++ (List.range nn.toInt.toNat).map (fun j => vs.getD (sp.toInt.toNat + j) dv) ++ vd.drop (dp.toInt.toNat + nn.toInt.toNat)) dd → Go p l e R s m args below meth c Y n0 G h' k n (mkF m pc' Ls S)) :
    Go p l e R s m args below meth c Y n0 G h k n (mkF m pc Ls (.int nn :: .int dp :: .ref b :: .int sp :: .ref a :: S)) := fun T ⟨locs, F, X, eT⟩ => by
  subst hp
  have nn0 : ∀ {x : Int32}, 0 ≤ x.toInt → ¬ x < 0 := fun {x} q w => by have := Int32.lt_iff_toInt_lt.mp w; simp only [Int32.reduceToInt] at this; omega
  obtain ⟨T', h', L', X', e', F', K', V', st⟩ := cpA X C.1 C.2.1 C.2.2.2.2.1 w1 w2 w3 w4 eT A B (Or.inl ⟨rfl, hty⟩) (nn0 h1) (nn0 h2) (nn0 h3) (by show sp.toInt.toNat + nn.toInt.toNat ≤ za.toInt.toNat; omega) (by show dp.toInt.toNat + nn.toInt.toNat ≤ zb.toInt.toNat; omega) rfl hl F ge
    (g := mkF m pc Ls (.int nn :: .int dp :: .ref b :: .int sp :: .ref a :: S)) rfl (hsz.trans C.2.2.2.1.symm) rfl (hb C.2.2.1 hd) hf (W := W) (by show 2 * 0 + _ ≤ _; rw [Nat.mul_zero, Nat.zero_add]; exact Nat.le_of_eq hW) (by show W + (7 + 11) ≤ _; exact hlo)
  exact step st (g h' K' V' T' ⟨_, F', X', e'⟩)
theorem nf_sel (C : Cx p s m meth c Z n0 own bytes ml ret) {Cn : String} {y : MethodName} (w : (Cond.selects Cn y y).before a0 Z = true) : NotFace s y := notFace_of_selects (args := #[]) (mvT C.2.1 w)
theorem initObj (C : Cx p s m meth c Z n0 own bytes ml ret) {i : Nat} {a : Addr} {W : Nat} (w1 : (Cond.methodLink own i Lib.objectInit).before a0 Z = true) (w2 : (Cond.instanceMethod Lib.objectInit).before a0 Z = true) (w3 : (Cond.code Lib.objectInit ⟨#[0xb1]⟩ 1 none).before a0 Z = true)
    (hd : decode bytes pc = .ok (.invokespecial i, 3)) (hp : pc + 3 = pc') (hsz : Ls.size = ml) (hf : 1 ≤ R.frames) (hW : (S.map fun v => v.category).sum = W) (hl : W + 12 ≤ R.locals)
    (g : Go p l e R s m args below meth c Y n0 G h k n (mkF m pc' Ls S)) : Go p l e R s m args below meth c Y n0 G h k n (mkF m pc Ls (.ref a :: S)) := fun T ⟨locs, F, X, eT⟩ => by
  subst hp
  obtain ⟨T', X', e', st⟩ := initO X C.1 C.2.1 C.2.2.2.2.1 w1 w2 w3 eT (g := mkF m pc Ls (.ref a :: S)) rfl (hsz.trans C.2.2.2.1.symm) rfl (hb C.2.2.1 hd) hf (W := W) (by show 2 * 0 + _ ≤ _; rw [Nat.mul_zero, Nat.zero_add]; exact Nat.le_of_eq hW) hl
  exact step st (g T' ⟨_, F, X', e'⟩)

/-! fields and objects -/
theorem getfield (C : Cx p s m meth c Z n0 own bytes ml ret) {i : Nat} {R0 O f d : String} {a : Addr} {v : Value} (w : (Cond.fieldLink own i R0 f d).before a0 Z = true) (via : Via Z R0 O f d) (F : Fld Z h a O f d v) (hd : decode bytes pc = .ok (.getfield i, 3)) (hp : pc + 3 = pc')
    (g : Go p l e R s m args below meth c Y n0 G h k n (mkF m pc' Ls (v :: S))) : Go p l e R s m args below meth c Y n0 G h k n (mkF m pc Ls (.ref a :: S)) := fun T ⟨locs, Fz, X, eT⟩ => by
  subst hp
  obtain ⟨T', X', e', st⟩ := getF X C.1 C.2.1 C.2.2.2.2.1 (host := "") (Or.inl w) via eT F (g := mkF m pc Ls (.ref a :: S)) rfl rfl (hb C.2.2.1 hd)
  exact step st (g T' ⟨_, Fz, X', e'⟩)
theorem getstatic (C : Cx p s m meth c Z n0 own bytes ml ret) {i : Nat} {R0 O f d : String} {v : Value} (w : (Cond.fieldLink own i R0 f d).before a0 Z = true) (via : Via Z R0 O f d) (F : Sta Z h O f d v) (hd : decode bytes pc = .ok (.getstatic i, 3)) (hp : pc + 3 = pc')
    (g : Go p l e R s m args below meth c Y n0 G h k n (mkF m pc' Ls (v :: S))) : Go p l e R s m args below meth c Y n0 G h k n (mkF m pc Ls S) := fun T ⟨locs, Fz, X, eT⟩ => by
  subst hp
  obtain ⟨T', X', e', st⟩ := getS2 X C.1 C.2.1 C.2.2.2.2.1 (host := "") (Or.inl w) via eT F (g := mkF m pc Ls S) rfl (hb C.2.2.1 hd)
  exact step st (g T' ⟨_, Fz, X', e'⟩)
theorem putfield (C : Cx p s m meth c Z n0 own bytes ml ret) {i kk : Nat} {R0 O f d Cn : String} {ty : FieldType} {a : Addr} {v old : Value} (w : (Cond.fieldLink own i R0 f d).before a0 Z = true) (via : Via Z R0 O f d) (F : Fld Z h a O f d old) (E : Exa Z h a Cn)
    (L : (Cond.lays Cn O f d).before a0 Z = true ∨ ((Cond.laysFinal Cn O f d).before a0 Z = true ∧ own = O ∧ meth.name = "<init>")) (wi : (Cond.instantiable Cn kk).before a0 Z = true) (hty : parseFieldDescriptor d = some ty) (hnr : narrow ty v = v) (hft : fits ty v = true) (hd : decode bytes pc = .ok (.putfield i, 3)) (hp : pc + 3 = pc') (ha : n0 ≤ a)
    (g : ∀ h', Wr h h' a (Jvm.RoadKit.slotOf Z O f d) v → Go p l e R s m args below meth c Y n0 G h' k n (mkF m pc' Ls S)) : Go p l e R s m args below meth c Y n0 G h k n (mkF m pc Ls (v :: .ref a :: S)) := fun T ⟨locs, Fz, X, eT⟩ => by
  subst hp
  obtain ⟨T', h', X', e', W, st⟩ := putF X C.1 C.2.1 C.2.2.2.2.1 (host := "") (Or.inl w) via eT F E L wi hty hnr hft (g := mkF m pc Ls (v :: .ref a :: S)) rfl rfl (hb C.2.2.1 hd)
  exact step st (g h' W T' ⟨_, Fr.snoc X' Fz ha, X', e'⟩)
theorem new (C : Cx p s m meth c Z n0 own bytes ml ret) {i sz : Nat} {Cn : String} (w : (Cond.classLink own i Cn).before a0 Z = true) (wi : (Cond.instantiable Cn sz).before a0 Z = true) (wz : (Cond.initialized Cn).before a0 Z = true) (hd : decode bytes pc = .ok (.new i, 3)) (hp : pc + 3 = pc') (hc : k + 1 ≤ R.cells) (hs : n + sz ≤ R.slots) {k' n' : Nat} (hk' : k + 1 = k') (hn' : n + sz = n')
    (g : ∀ h' a, a = h.size → n0 ≤ a → Ext h h' → Exa Z h' a Cn → (∀ {O nm d : String} {ty : FieldType}, Laid Z a0 Cn O nm d → parseFieldDescriptor d = some ty → Fld Z h' a O nm d (defaultValue ty)) → Go p l e R s m args below meth c Y n0 G h' k' n' (mkF m pc' Ls (.ref a :: S))) :
    Go p l e R s m args below meth c Y n0 G h k n (mkF m pc Ls S) := fun T ⟨locs, Fz, X, eT⟩ => by
  subst hp hk' hn'
  obtain ⟨T', h', X', e', E, A, D, -, st⟩ := newO X C.1 C.2.1 C.2.2.2.2.1 w wi wz eT (g := mkF m pc Ls S) rfl (hb C.2.2.1 hd) hc hs
  exact step st (g h' _ rfl (hz C X eT) E A D T' ⟨_, Fz, X', e'⟩)
/-! arrays -/
theorem newarray (C : Cx p s m meth c Z n0 own bytes ml ret) {aty : ArrayType} {x : Int32} {cap : Nat} (w : (Cond.arrayClass (newarray.typeOf aty)).before a0 Z = true) (hd : decode bytes pc = .ok (.newarray aty, 2)) (hp : pc + 2 = pc') (hx : ¬ x < 0) (hcap : x.toNatClampNeg ≤ cap) (hbig : cap * 8 ≤ 536870912) (hc : k + 1 ≤ R.cells) (hs : n + cap ≤ R.slots) {k' n' : Nat} (hk' : k + 1 = k') (hn' : n + cap = n')
    (g : ∀ h' a kc, a = h.size → n0 ≤ a → Ext h h' → Arv Z h' a kc (newarray.typeOf aty) x [] (defaultValue (newarray.typeOf aty)) → Go p l e R s m args below meth c Y n0 G h' k' n' (mkF m pc' Ls (.ref a :: S))) :
    Go p l e R s m args below meth c Y n0 G h k n (mkF m pc Ls (.int x :: S)) := fun T ⟨locs, Fz, X, eT⟩ => by
  subst hp hk' hn'
  obtain ⟨T', h', kc, X', e', E, A, st⟩ := newP X C.1 C.2.1 w eT (g := mkF m pc Ls (.int x :: S)) rfl (hb C.2.2.1 hd) rfl hx hcap hbig hc hs
  exact step st (g h' _ kc rfl (hz C X eT) E (Arv.new A hx) T' ⟨_, Fz, X', e'⟩)
theorem arraylength (C : Cx p s m meth c Z n0 own bytes ml ret) {a : Addr} {kc : ClassId} {ty : FieldType} {z : Int32} {vs : List Value} {dv : Value} (A : Arv Z h a kc ty z vs dv) (hd : decode bytes pc = .ok (.arraylength, 1)) (hp : pc + 1 = pc')
    (g : Go p l e R s m args below meth c Y n0 G h k n (mkF m pc' Ls (.int z :: S))) : Go p l e R s m args below meth c Y n0 G h k n (mkF m pc Ls (.ref a :: S)) := by
  subst hp
  obtain ⟨cl, Ar, -, Sz, Nz, -, -⟩ := A
  refine stepG (fun T locs X eT t q => X.arraylength C.1 (by rw [eT]; exact Ar.1) (State.isArrayOf_alike C.2.1.alike Ar.2.1) (g := mkF m pc Ls (.ref a :: S)) rfl rfl (hb C.2.2.1 hd) t ?_) g
  rw [len_of Sz Nz]; exact q
theorem arv_at {a : Addr} {kc : ClassId} {ty : FieldType} {z : Int32} {vs : List Value} {dv : Value} (A : Arv Z h a kc ty z vs dv) {j : Int32} (h0 : 0 ≤ j.toInt) (h1 : j.toInt < z.toInt) {v : Value} (hv : vs.getD j.toInt.toNat dv = v) :
    ∃ cl, Arr Z h a cl ty ∧ ¬ (j < 0 ∨ cl.slots.size ≤ j.toNatClampNeg) ∧ cl.slots[j.toNatClampNeg]? = some v := by
  obtain ⟨cl, Ar, -, Sz, Nz, H, -⟩ := A
  have hj : ¬ j < 0 := fun q => by have := Int32.lt_iff_toInt_lt.mp q; simp at this; omega
  have hin := inb_of Sz (j := j) ⟨hj, Int32.lt_iff_toInt_lt.mpr h1⟩
  exact ⟨cl, Ar, hin, H.at hin hv⟩
theorem iaload (C : Cx p s m meth c Z n0 own bytes ml ret) {a : Addr} {kc : ClassId} {z j : Int32} {vs : List Value} {dv v : Value} (A : Arv Z h a kc .int z vs dv) (h0 : 0 ≤ j.toInt) (h1 : j.toInt < z.toInt) (hv : vs.getD j.toInt.toNat dv = v) (hd : decode bytes pc = .ok (.iaload, 1)) (hp : pc + 1 = pc')
    (g : Go p l e R s m args below meth c Y n0 G h k n (mkF m pc' Ls (v :: S))) : Go p l e R s m args below meth c Y n0 G h k n (mkF m pc Ls (.int j :: .ref a :: S)) := by
  subst hp
  obtain ⟨cl, Ar, hin, hat⟩ := arv_at A h0 h1 hv
  exact stepG (fun T locs X eT t q => X.iaload C.1 (by rw [eT]; exact Ar.1) (State.isArrayOf_alike C.2.1.alike Ar.2.1) Ar.2.2 hin hat (g := mkF m pc Ls (.int j :: .ref a :: S)) rfl rfl (hb C.2.2.1 hd) t q) g
theorem laload (C : Cx p s m meth c Z n0 own bytes ml ret) {a : Addr} {kc : ClassId} {z j : Int32} {vs : List Value} {dv v : Value} (A : Arv Z h a kc .long z vs dv) (h0 : 0 ≤ j.toInt) (h1 : j.toInt < z.toInt) (hv : vs.getD j.toInt.toNat dv = v) (hd : decode bytes pc = .ok (.laload, 1)) (hp : pc + 1 = pc')
    (g : Go p l e R s m args below meth c Y n0 G h k n (mkF m pc' Ls (v :: S))) : Go p l e R s m args below meth c Y n0 G h k n (mkF m pc Ls (.int j :: .ref a :: S)) := by
  subst hp
  obtain ⟨cl, Ar, hin, hat⟩ := arv_at A h0 h1 hv
  exact stepG (fun T locs X eT t q => X.laload C.1 (by rw [eT]; exact Ar.1) (State.isArrayOf_alike C.2.1.alike Ar.2.1) Ar.2.2 hin hat (g := mkF m pc Ls (.int j :: .ref a :: S)) rfl rfl (hb C.2.2.1 hd) t q) g
theorem caload (C : Cx p s m meth c Z n0 own bytes ml ret) {a : Addr} {kc : ClassId} {z j : Int32} {vs : List Value} {dv v : Value} (A : Arv Z h a kc .char z vs dv) (h0 : 0 ≤ j.toInt) (h1 : j.toInt < z.toInt) (hv : vs.getD j.toInt.toNat dv = v) (hd : decode bytes pc = .ok (.caload, 1)) (hp : pc + 1 = pc')
    (g : Go p l e R s m args below meth c Y n0 G h k n (mkF m pc' Ls (v :: S))) : Go p l e R s m args below meth c Y n0 G h k n (mkF m pc Ls (.int j :: .ref a :: S)) := by
  subst hp
  obtain ⟨cl, Ar, hin, hat⟩ := arv_at A h0 h1 hv
  exact stepG (fun T locs X eT t q => X.caload C.1 (by rw [eT]; exact Ar.1) (State.isArrayOf_alike C.2.1.alike Ar.2.1) Ar.2.2 hin hat (g := mkF m pc Ls (.int j :: .ref a :: S)) rfl rfl (hb C.2.2.1 hd) t q) g
theorem baload (C : Cx p s m meth c Z n0 own bytes ml ret) {a : Addr} {kc : ClassId} {z j : Int32} {vs : List Value} {dv v : Value} (A : Arv Z h a kc .byte z vs dv) (h0 : 0 ≤ j.toInt) (h1 : j.toInt < z.toInt) (hv : vs.getD j.toInt.toNat dv = v) (hd : decode bytes pc = .ok (.baload, 1)) (hp : pc + 1 = pc')
    (g : Go p l e R s m args below meth c Y n0 G h k n (mkF m pc' Ls (v :: S))) : Go p l e R s m args below meth c Y n0 G h k n (mkF m pc Ls (.int j :: .ref a :: S)) := by
  subst hp
  obtain ⟨cl, Ar, hin, hat⟩ := arv_at A h0 h1 hv
  exact stepG (fun T locs X eT t q => X.baloadBytes C.1 (by rw [eT]; exact Ar.1) (State.isArrayOf_alike C.2.1.alike Ar.2.1) Ar.2.2 hin hat (g := mkF m pc Ls (.int j :: .ref a :: S)) rfl rfl (hb C.2.2.1 hd) t q) g
theorem aaload (C : Cx p s m meth c Z n0 own bytes ml ret) {a : Addr} {cl : Cell} {ty : FieldType} {j : Int32} {v : Value} (A : Arr Z h a cl ty) (hty : ty.isReference = true) (hin : ¬ (j < 0 ∨ cl.slots.size ≤ j.toNatClampNeg)) (hat : cl.slots[j.toNatClampNeg]? = some v) (hd : decode bytes pc = .ok (.aaload, 1)) (hp : pc + 1 = pc')
    (g : Go p l e R s m args below meth c Y n0 G h k n (mkF m pc' Ls (v :: S))) : Go p l e R s m args below meth c Y n0 G h k n (mkF m pc Ls (.int j :: .ref a :: S)) := by
  subst hp
  exact stepG (fun T locs X eT t q => X.aaload C.1 (by rw [eT]; exact A.1) (State.isArrayOf_alike C.2.1.alike A.2.1) hty A.2.2 hin hat (g := mkF m pc Ls (.int j :: .ref a :: S)) rfl rfl (hb C.2.2.1 hd) t q) g
theorem instT (C : Cx p s m meth c Z n0 own bytes ml ret) {i : Nat} {Kn : String} {a : Addr} (w : (Cond.classLink own i Kn).before a0 Z = true) (I : Ins Z h a Kn true) (hd : decode bytes pc = .ok (.instanceof i, 3)) (hp : pc + 3 = pc')
    (g : Go p l e R s m args below meth c Y n0 G h k n (mkF m pc' Ls (.int 1 :: S))) : Go p l e R s m args below meth c Y n0 G h k n (mkF m pc Ls (.ref a :: S)) := fun T ⟨locs, Fz, X, eT⟩ => by
  subst hp
  obtain ⟨T', X', e', st⟩ := instY X C.1 C.2.1 C.2.2.2.2.1 w eT I (g := mkF m pc Ls (.ref a :: S)) rfl rfl (hb C.2.2.1 hd)
  exact step st (g T' ⟨_, Fz, X', e'⟩)
theorem instF (C : Cx p s m meth c Z n0 own bytes ml ret) {i : Nat} {Kn Cn : String} {a : Addr} (w : (Cond.classLink own i Kn).before a0 Z = true) (E : Exa Z h a Cn) (I : ∃ c t, Z.vm.findClass Cn = some c ∧ Z.vm.findClass Kn = some t ∧ Z.vm.assignable c t = false) (hd : decode bytes pc = .ok (.instanceof i, 3)) (hp : pc + 3 = pc')
    (g : Go p l e R s m args below meth c Y n0 G h k n (mkF m pc' Ls (.int 0 :: S))) : Go p l e R s m args below meth c Y n0 G h k n (mkF m pc Ls (.ref a :: S)) := fun T ⟨locs, Fz, X, eT⟩ => by
  subst hp
  obtain ⟨T', X', e', st⟩ := instNo X C.1 C.2.1 C.2.2.2.2.1 w eT E I (g := mkF m pc Ls (.ref a :: S)) rfl rfl (hb C.2.2.1 hd)
  exact step st (g T' ⟨_, Fz, X', e'⟩)
theorem instN (C : Cx p s m meth c Z n0 own bytes ml ret) {i : Nat} (hd : decode bytes pc = .ok (.instanceof i, 3)) (hp : pc + 3 = pc')
    (g : Go p l e R s m args below meth c Y n0 G h k n (mkF m pc' Ls (.int 0 :: S))) : Go p l e R s m args below meth c Y n0 G h k n (mkF m pc Ls (.null :: S)) := by
  subst hp; exact stepG (fun T locs X eT t q => X.instanceofNull C.1 (g := mkF m pc Ls (.null :: S)) rfl rfl (hb C.2.2.1 hd) t q) g
theorem castT (C : Cx p s m meth c Z n0 own bytes ml ret) {i : Nat} {Kn : String} {a : Addr} (w : (Cond.classLink own i Kn).before a0 Z = true) (I : Ins Z h a Kn true) (hd : decode bytes pc = .ok (.checkcast i, 3)) (hp : pc + 3 = pc')
    (g : Go p l e R s m args below meth c Y n0 G h k n (mkF m pc' Ls (.ref a :: S))) : Go p l e R s m args below meth c Y n0 G h k n (mkF m pc Ls (.ref a :: S)) := fun T ⟨locs, Fz, X, eT⟩ => by
  subst hp
  obtain ⟨T', X', e', st⟩ := castY X C.1 C.2.1 C.2.2.2.2.1 w eT I (g := mkF m pc Ls (.ref a :: S)) rfl rfl (hb C.2.2.1 hd)
  exact step st (g T' ⟨_, Fz, X', e'⟩)
theorem ns_root {O Kn : String} {q : Nat} (w : (Cond.noSuperclass O).before a0 Z = true) (wk : (Cond.instantiable Kn q).before a0 Z = true) (hn : O ≠ Kn) : NS Z O Kn := by
  obtain ⟨c, k, h1, h2, h3, -, -⟩ := Cond.noSuperclass_spec w
  obtain ⟨t, kt, g1, -⟩ := Cond.instantiable_spec wk
  have ne := ids_ne h1 g1 hn
  refine ⟨c, t, h1, g1, fun fuel => ?_⟩
  cases fuel with
  | zero => rfl
  | succ f => simp [Vm.isSubclassAux, ne, h2, h3]
theorem ns_no {Cn Sn Kn : String} {q : Nat} (w : (Cond.superclass Cn Sn).before a0 Z = true) (wk : (Cond.instantiable Kn q).before a0 Z = true) (n : NS Z Cn Kn) (hn : Cn ≠ Kn) : ∃ c t, Z.vm.findClass Cn = some c ∧ Z.vm.findClass Kn = some t ∧ Z.vm.assignable c t = false := by
  obtain ⟨c, t, h0, g0, n3⟩ := n
  obtain ⟨p, k, kp, h1, h2, h3, h4, h5, -, h7⟩ := Cond.superclass_spec h0 w
  obtain ⟨t', k', g1, g2, g5, g7, -⟩ := Cond.instantiable_spec wk
  cases g0.symm.trans g1
  have ne := ids_ne h0 g0 hn
  have g8 : k'.isInterface = false := by simp only [Bool.or_eq_false_iff] at g7; exact g7.1
  refine ⟨c, t, h0, g0, ?_⟩
  show Z.vm.assignableAux (255 + 1) c t = false
  simp [Vm.assignableAux, ne, h2, g2, h5, g5, g8, Vm.isSubclass, n3]
theorem iastore (C : Cx p s m meth c Z n0 own bytes ml ret) {a : Addr} {kc : ClassId} {z j : Int32} {x : Int32} {vs : List Value} {dv : Value} (A : Arv Z h a kc .int z vs dv) (h0 : 0 ≤ j.toInt) (h1 : j.toInt < z.toInt) (hlen : j.toInt.toNat < vs.length) (ha : n0 ≤ a) (hd : decode bytes pc = .ok (.iastore, 1)) (hp : pc + 1 = pc')
    (g : ∀ h', Wr h h' a j.toNatClampNeg (.int x) → Arv Z h' a kc .int z (vs.set j.toInt.toNat (.int x)) dv → Go p l e R s m args below meth c Y n0 G h' k n (mkF m pc' Ls S)) : Go p l e R s m args below meth c Y n0 G h k n (mkF m pc Ls (.int x :: .int j :: .ref a :: S)) := fun T ⟨locs, Fz, X, eT⟩ => by
  subst hp
  obtain ⟨cl, Ar, q1, Sz, Nz, H, Gf⟩ := A
  have hj : ¬ j < 0 := fun q => by have := Int32.lt_iff_toInt_lt.mp q; simp at this; omega
  have hin := inb_of Sz (j := j) ⟨hj, Int32.lt_iff_toInt_lt.mpr h1⟩
  obtain ⟨T', h', X', e', W, st⟩ := stI X C.1 C.2.1 eT Ar hin (g := mkF m pc Ls (.int x :: .int j :: .ref a :: S)) rfl rfl (hb C.2.2.1 hd)
  exact step st (g h' W (Arv.set Ar q1 Sz Nz H Gf rfl W _ rfl hlen) T' ⟨_, Fr.snoc X' Fz ha, X', e'⟩)
theorem lastore (C : Cx p s m meth c Z n0 own bytes ml ret) {a : Addr} {kc : ClassId} {z j : Int32} {x : Int64} {vs : List Value} {dv : Value} (A : Arv Z h a kc .long z vs dv) (h0 : 0 ≤ j.toInt) (h1 : j.toInt < z.toInt) (hlen : j.toInt.toNat < vs.length) (ha : n0 ≤ a) (hd : decode bytes pc = .ok (.lastore, 1)) (hp : pc + 1 = pc')
    (g : ∀ h', Wr h h' a j.toNatClampNeg (.long x) → Arv Z h' a kc .long z (vs.set j.toInt.toNat (.long x)) dv → Go p l e R s m args below meth c Y n0 G h' k n (mkF m pc' Ls S)) : Go p l e R s m args below meth c Y n0 G h k n (mkF m pc Ls (.long x :: .int j :: .ref a :: S)) := fun T ⟨locs, Fz, X, eT⟩ => by
  subst hp
  obtain ⟨cl, Ar, q1, Sz, Nz, H, Gf⟩ := A
  have hj : ¬ j < 0 := fun q => by have := Int32.lt_iff_toInt_lt.mp q; simp at this; omega
  have hin := inb_of Sz (j := j) ⟨hj, Int32.lt_iff_toInt_lt.mpr h1⟩
  obtain ⟨T', h', X', e', W, st⟩ := stJ X C.1 C.2.1 eT Ar hin (g := mkF m pc Ls (.long x :: .int j :: .ref a :: S)) rfl rfl (hb C.2.2.1 hd)
  exact step st (g h' W (Arv.set Ar q1 Sz Nz H Gf rfl W _ rfl hlen) T' ⟨_, Fr.snoc X' Fz ha, X', e'⟩)
theorem castore (C : Cx p s m meth c Z n0 own bytes ml ret) {a : Addr} {kc : ClassId} {z j : Int32} {x : Int32} {vs : List Value} {dv : Value} (A : Arv Z h a kc .char z vs dv) (h0 : 0 ≤ j.toInt) (h1 : j.toInt < z.toInt) (hlen : j.toInt.toNat < vs.length) (ha : n0 ≤ a) (hd : decode bytes pc = .ok (.castore, 1)) (hp : pc + 1 = pc')
    (g : ∀ h', Wr h h' a j.toNatClampNeg (.int (nar .char x)) → Arv Z h' a kc .char z (vs.set j.toInt.toNat (.int (nar .char x))) dv → Go p l e R s m args below meth c Y n0 G h' k n (mkF m pc' Ls S)) : Go p l e R s m args below meth c Y n0 G h k n (mkF m pc Ls (.int x :: .int j :: .ref a :: S)) := fun T ⟨locs, Fz, X, eT⟩ => by
  subst hp
  obtain ⟨cl, Ar, q1, Sz, Nz, H, Gf⟩ := A
  have hj : ¬ j < 0 := fun q => by have := Int32.lt_iff_toInt_lt.mp q; simp at this; omega
  have hin := inb_of Sz (j := j) ⟨hj, Int32.lt_iff_toInt_lt.mpr h1⟩
  obtain ⟨T', h', X', e', W, st⟩ := stC X C.1 C.2.1 eT Ar hin (g := mkF m pc Ls (.int x :: .int j :: .ref a :: S)) rfl rfl (hb C.2.2.1 hd)
  exact step st (g h' W (Arv.set Ar q1 Sz Nz H Gf (fits_nar_char _) W _ rfl hlen) T' ⟨_, Fr.snoc X' Fz ha, X', e'⟩)
theorem bastore (C : Cx p s m meth c Z n0 own bytes ml ret) {a : Addr} {kc : ClassId} {z j : Int32} {x : Int32} {vs : List Value} {dv : Value} (A : Arv Z h a kc .byte z vs dv) (h0 : 0 ≤ j.toInt) (h1 : j.toInt < z.toInt) (hlen : j.toInt.toNat < vs.length) (ha : n0 ≤ a) (hd : decode bytes pc = .ok (.bastore, 1)) (hp : pc + 1 = pc')
    (g : ∀ h', Wr h h' a j.toNatClampNeg (.int (nar .byte x)) → Arv Z h' a kc .byte z (vs.set j.toInt.toNat (.int (nar .byte x))) dv → Go p l e R s m args below meth c Y n0 G h' k n (mkF m pc' Ls S)) : Go p l e R s m args below meth c Y n0 G h k n (mkF m pc Ls (.int x :: .int j :: .ref a :: S)) := fun T ⟨locs, Fz, X, eT⟩ => by
  subst hp
  obtain ⟨cl, Ar, q1, Sz, Nz, H, Gf⟩ := A
  have hj : ¬ j < 0 := fun q => by have := Int32.lt_iff_toInt_lt.mp q; simp at this; omega
  have hin := inb_of Sz (j := j) ⟨hj, Int32.lt_iff_toInt_lt.mpr h1⟩
  obtain ⟨T', h', X', e', W, st⟩ := stB X C.1 C.2.1 eT Ar hin (g := mkF m pc Ls (.int x :: .int j :: .ref a :: S)) rfl rfl (hb C.2.2.1 hd)
  exact step st (g h' W (Arv.set Ar q1 Sz Nz H Gf (fits_nar_byte _) W _ rfl hlen) T' ⟨_, Fr.snoc X' Fz ha, X', e'⟩)
end Walk
end Jvm.Pilot.@@N@@.W
namespace Jvm.Pilot.@@N@@.W
open Jvm Jvm.ClassFile Sem Op Lib Jvm.Free Jvm.Stand Jvm.LawKit Jvm.RoadKit Bundle
/-- a body's contract where String constants are loaded: the booked constants stay whole; sf: places that are none of theirs -/
abbrev ConL (l : Launch) (Z : State) (EL : List (String × Nat)) (y : MethodName) (bytes : ByteArray) (ml : Nat) (ret : Option FieldType) (ws : List Cond) (rm : Room) (K N : Nat) (as : Array Value) (h0 : Heap) (n0 : Nat) (sf : List Addr) (G : Option Value → Heap → Prop) : Prop :=
  MetFree l y (head1 (Cond.code y bytes ml ret :: ws) rm) (fun a U => a = as ∧ Z.Warmed39 U.vm ∧ U.heap = h0 ∧ CHv Z EL U.vm h0 ∧ ∀ x ∈ sf, Safe Z EL U.vm h0 x) (fun _ _ _ _ _ => True)
    (fun _ U o U' => ∃ v L, o = .returned v ∧ (G v U'.heap ∧ Fr n0 L) ∧ CHr Z EL U.vm U.heap U'.vm U'.heap ∧ ReturnedEndW U o U' L K N)
/-- what a walk bears that loads String constants: s0 is its true start, vm0 the tables over which it stands -/
def Lt (Z : State) (a0 : Array Value) (EL : List (String × Nat)) (s0 : State) (vm0 : Vm) (k0 : Nat) (h : Heap) : Prop :=
  s0.Since vm0 k0 ∧ k0 ≤ h.size ∧ CHr Z EL s0.vm s0.heap vm0 h ∧ EW Z a0 EL ∧ (∀ a ∈ Bundle.stringAtoms, a.before a0 Z = true) ∧ Z.Warmed39 vm0
section Lit
variable {p : Program} {l : Launch} {e : Env} {R : Room} {m : MethodId} {args : Array Value} {below : List Frame} {meth : Method} {c : Code} {s0 : State} {vm0 vm1 : Vm} {k0 K N n0 k n : Nat} {G : Option Value → Heap → Prop} {Y : State → Outcome → List Loc → Prop}
  {Z : State} {a0 : Array Value} {EL : List (String × Nat)} {own : String} {bytes : ByteArray} {ml : Nat} {ret : Option FieldType} {Ls Ls' : Array Slot} {S : List Value} {pc pc' pn : Nat} {h h' : Heap} {x a : Addr} {ws : List Addr} {sl : Nat} {v : Value}
theorem Lt.ext (L : Lt Z a0 EL s0 vm0 k0 h) (E : Ext h h') : Lt Z a0 EL s0 vm0 k0 h' := ⟨L.1, Nat.le_trans L.2.1 E.1, L.2.2.1.trans (CHr.ext E L.2.2.1.1), L.2.2.2⟩
theorem Lt.wr (L : Lt Z a0 EL s0 vm0 k0 h) (W : Wr h h' a sl v) (Sf : Safe Z EL vm0 h a) : Lt Z a0 EL s0 vm0 k0 h' := ⟨L.1, by rw [W.size]; exact L.2.1, L.2.2.1.trans (CHr.wr W Sf L.2.2.1.1), L.2.2.2⟩
theorem Lt.keep (L : Lt Z a0 EL s0 vm0 k0 h) (Kp : Keep h h' ws) (hs : ∀ x ∈ ws, Safe Z EL vm0 h x) : Lt Z a0 EL s0 vm0 k0 h' := ⟨L.1, Nat.le_trans L.2.1 Kp.1, L.2.2.1.trans (CHr.keep Kp hs L.2.2.1.1), L.2.2.2⟩
theorem Lt.sext (L : Lt Z a0 EL s0 vm0 k0 h) (E : Ext h h') (Sx : Safe Z EL vm0 h x) : Safe Z EL vm0 h' x := Safe.ext E L.2.2.1.1 Sx
theorem Lt.swr (L : Lt Z a0 EL s0 vm0 k0 h) (W : Wr h h' a sl v) (Sf : Safe Z EL vm0 h a) (Sx : Safe Z EL vm0 h x) : Safe Z EL vm0 h' x := Safe.wr W Sf L.2.2.1.1 Sx
theorem Lt.skeep (L : Lt Z a0 EL s0 vm0 k0 h) (Kp : Keep h h' ws) (hs : ∀ x ∈ ws, Safe Z EL vm0 h x) (Sx : Safe Z EL vm0 h x) : Safe Z EL vm0 h' x := Safe.keep Kp hs L.2.2.1.1 Sx
theorem Lt.fin (L : Lt Z a0 EL s0 vm0 k0 h) : ∀ s₂ o L', s₂.heap = h → FrameEnd (s0.setVm vm0) o s₂ L' K N → (CHr Z EL s0.vm s0.heap s₂.vm s₂.heap ∧ ReturnedEndW s0 o s₂ L' K N) := by
  rintro s₂ o L' rfl ⟨h1, h2, h3⟩
  obtain ⟨a, b, d⟩ := L.1.ended h2 L.2.1 h3
  refine ⟨L.2.2.1.trans ?_, h1, a, b, d⟩
  have q := CHv.later (h' := s₂.heap) L.2.2.2.2.2 (hW := (show (Wst Z vm0 s₂.heap).Warmed39 s₂.vm from h2.wide)) L.2.2.2.1 ⟨Nat.le_refl _, fun _ _ q => q⟩ (Or.inl h2.interned_eq) L.2.2.1.1
  exact ⟨q.1, Nat.le_refl _, q.2⟩
theorem enterL {y : MethodName} {as : Array Value} {wsc : List Cond} {rm : Room} {h0 : Heap} {sf : List Addr} (hp : plainFor y = true) (Z0 : n0 ≤ h0.size) (hEL : EW Z a0 EL) (hSA : ∀ a ∈ Bundle.stringAtoms, a.before a0 Z = true)
    (body : ∀ p e s0 m below meth c, Cx p (s0.setVm s0.vm) m meth c Z n0 y.cls bytes ml ret → meth.name = y.name → s0.heap = h0 → Lt Z a0 EL s0 s0.vm 0 h0 → (∀ x ∈ sf, Safe Z EL s0.vm h0 x) →
      Go p l e rm (s0.setVm s0.vm) m as below meth c (fun s₂ o L => CHr Z EL s0.vm s0.heap s₂.vm s₂.heap ∧ ReturnedEndW s0 o s₂ L K N) n0 G h0 0 0 (entryFrame m as ml)) : ConL l Z EL y bytes ml ret wsc rm K N as h0 n0 sf G := by
  refine MetFree.of_bodySF hp hisR ?_
  intro p e s m args below meth c s₁ Bd hml0 hP hK
  obtain ⟨rfl, hZ, hh, hCH, hsf⟩ := hP
  have X0 : Stand p l e rm (s.setVm s.vm) m args below meth c s₁ [] 0 0 := Stand.of_body Bd
  have e0 : s₁.heap = h0 := by rw [← hh, Bd.state]; rfl
  obtain ⟨s₂, o, h1, h2, h3, v, L, h4, h5, h6⟩ := body p e s m below meth c ⟨Bd.exec, hZ, Bd.bytes, hml0, findClass_of_methodNamed Bd.named, Bd.returns, Bd.notSynchronized, by show n0 ≤ s.heap.size; rw [hh]; exact Z0⟩ (name_of_methodNamed Bd.named Bd.method).1 hh
    ⟨(State.WarmedH.refl s).since 0, Nat.zero_le _, by rw [hh]; exact CHr.refl hCH, hEL, hSA, hZ⟩ hsf s₁ ⟨[], Fr.nil _, X0, e0⟩
  exact ⟨s₂, o, h1, h2, h3, v, L, h4, h5, h6⟩
theorem ldcL (C : Cx p (s0.setVm vm0) m meth c Z n0 own bytes ml ret) {i : Nat} {text : String} {vs : List Value} {z : Int32} {nn : Nat} (L : Lt Z a0 EL s0 vm0 k0 h) (w : (Cond.stringLink own i text).before a0 Z = true) (hmem : (own, i) ∈ EL)
    (ht : (∀ c ∈ text.toList, c.toNat < 256) ∧ text.toList.map (fun c => Value.int (Jvm.Lit.byteI c.toNat.toUInt16)) = vs) (hz : ¬ z < 0) (hl : z.toNatClampNeg = vs.length) (hd : decode bytes pc = .ok (.ldc i, 2)) (hp : pc + 2 = pc')
    (hn : 4 * text.toList.length ≤ nn) (hbig : nn ≤ 536870912) (hc : k + 2 ≤ R.cells) (hs : n + (nn + 4) ≤ R.slots) {k' n' : Nat} (hk' : k + 2 = k') (hn' : n + (nn + 4) = n')
    (g : ∀ vm1 k1 h' a b kc, Cx p (s0.setVm vm1) m meth c Z n0 own bytes ml ret → Lt Z a0 EL s0 vm1 k1 h' → Ext h h' → Exa Z h' a "java/lang/String" → Fld Z h' a "java/lang/String" "coder" "B" (.int 0) → Fld Z h' a "java/lang/String" "value" "[B" (.ref b) → Arv Z h' b kc .byte z vs (.int 0) →
      (∀ x, x < h.size → Safe Z EL vm0 h x → Safe Z EL vm1 h' x) → (∀ x, Safe Z EL vm1 h' x → x ≠ a ∧ x ≠ b) → Go p l e R (s0.setVm vm1) m args below meth c Y n0 G h' k' n' (mkF m pc' Ls (.ref a :: S))) :
    Go p l e R (s0.setVm vm0) m args below meth c Y n0 G h k n (mkF m pc Ls S) := fun T ⟨locs, F, X, eT⟩ => by
  subst hp hk' hn'
  obtain ⟨a, T', h', k1, b, kc, X', e', E, hS', hk1, hW, hf, A, F1, F2, V, la, lb, hC, hL, hne, st⟩ := ldcCH X C.1 L.2.2.2.2.2 C.2.2.2.2.1 w L.2.2.2.2.1 eT L.1 L.2.1 L.2.2.2.1 hmem L.2.2.1.1 ht hz hl (g := mkF m pc Ls S) rfl (hb C.2.2.1 hd) hn hbig hc hs
  exact step st (g T'.vm k1 h' a b kc ⟨C.1, hW, C.2.2.1, C.2.2.2.1, hf, C.2.2.2.2.2.1, C.2.2.2.2.2.2.1, C.2.2.2.2.2.2.2⟩ ⟨hS', hk1, L.2.2.1.trans hC, L.2.2.2.1, L.2.2.2.2.1, hW⟩ E A F1 F2 V (fun x hx Sx => hC.safe hx Sx) hne T' ⟨_, F, X', e'⟩)
theorem backOfL {y : MethodName} {b' : ByteArray} {mL : Nat} {r' : Option FieldType} {rm : Room} {len W : Nat} {as' : Array Value} {sf : List Addr} {Gc : Option Value → Heap → Prop} {s : State}
    (hM : ConL l Z EL y b' mL r' [] rm rm.cells rm.slots as' h n0 sf Gc) (hZ : Z.Warmed39 vm0) (wc : (Cond.code y b' mL r').before a0 Z = true) (wz : (Cond.initialized y.cls).before a0 Z = true) (hf : rm.frames + 1 ≤ R.frames) (hl : W + (mL + 11) + rm.locals ≤ R.locals)
    (hEL : EW Z a0 EL) (H : CHv Z EL vm0 h) (hsf : ∀ x ∈ sf, x < h.size ∧ Safe Z EL vm0 h x) :
    BackS l R p e below (s.setVm vm0) args y len W (fun A a => a = as' ∧ A.U.heap = h ∧ A.cells + rm.cells ≤ R.cells ∧ A.slots + rm.slots ≤ R.slots)
      (fun A _ v B => ∃ L, (Gc v B.U.heap ∧ Fr n0 L) ∧ B.locs = A.locs ++ L ∧ B.cells = A.cells + rm.cells ∧ B.slots = A.slots + rm.slots ∧ CHr Z EL vm0 h B.U.vm B.U.heap) :=
  BackS.of_freeW (bytes := b') (maxL := mL) (ret := r') (E := fun _ first o t L k n => k = rm.cells ∧ n = rm.slots ∧ (∃ v, o = .returned v ∧ (Gc v t.heap ∧ Fr n0 L)) ∧ CHr Z EL first.vm first.heap t.vm t.heap) hM hf hl
    (fun m meth c A a Y hp => have hU : Z.Warmed39 A.U.vm := wtrans (s := s.setVm vm0) hZ Y.warmed
      ⟨by show (Cond.and _ .tt).before a A.U = true; rw [Cond.before_and, mv hU wc]; rfl, mv hU wc, mv hU wz, hp.2.2.1, hp.2.2.2⟩)
    (fun m meth c A a g mk Y hp => ⟨hp.1, wtrans (s := s.setVm vm0) hZ Y.warmed, hp.2.1, (CHv.at Y hZ hEL H).1, fun x hx => (CHv.at Y hZ hEL H).safe (hsf x hx).1 (hsf x hx).2⟩) (fun _ _ _ _ _ _ _ _ _ => trivial)
    (fun _ _ _ _ ⟨v, L, h1, h2, h3, h4⟩ => ⟨L, _, _, h4, rfl, rfl, ⟨v, h1, h2⟩, h3⟩)
    (fun m meth c A a g mk v t L k n Y hp _ _ ⟨e1, e2, ⟨v', e3, e4⟩, e5⟩ => by
      cases e3; subst e1 e2
      refine ⟨L, e4, rfl, rfl, rfl, (CHv.at Y hZ hEL H).trans ?_⟩
      rw [← hp.2.1]; exact e5)
theorem callSL (C : Cx p (s0.setVm vm0) m meth c Z n0 own bytes ml ret) {i : Nat} {y : MethodName} {b' : ByteArray} {mL : Nat} {r' : Option FieldType} {rm : Room} {Gc : Option Value → Heap → Prop} {sf : List Addr} {argsL rest : List Value} {W : Nat} (L : Lt Z a0 EL s0 vm0 k0 h)
    (w1 : (Cond.methodLink own i y).before a0 Z = true) (w2 : (Cond.static y).before a0 Z = true) (w3 : (Cond.initialized y.cls).before a0 Z = true) (w4 : (Cond.code y b' mL r').before a0 Z = true)
    (hy : y.cls ≠ "java/lang/invoke/MethodHandle" ∧ y.cls ≠ "java/lang/invoke/VarHandle") (con : n0 ≤ h.size → ConL l Z EL y b' mL r' [] rm rm.cells rm.slots argsL.toArray h n0 sf Gc) (hsf : ∀ x ∈ sf, x < h.size ∧ Safe Z EL vm0 h x)
    (hd : decode bytes pc = .ok (.invokestatic i, 3)) (hp : pc + 3 = pc') (hsz : Ls.size = ml) {ps : List FieldType} {rr : Option FieldType} (hds : parseMethodDescriptor y.desc = some ⟨ps, rr⟩) (hlen : argsL.length = ps.length)
    (hS : S = argsL.reverse ++ rest) (hW : (rest.map fun v => v.category).sum = W) (hf : rm.frames + 1 ≤ R.frames) (hl : W + (mL + 11) + rm.locals ≤ R.locals) (hc : k + rm.cells ≤ R.cells) (hs : n + rm.slots ≤ R.slots) {k' n' : Nat} (hk' : k + rm.cells = k') (hn' : n + rm.slots = n')
    (g : ∀ vm1 k1 h' v, Cx p (s0.setVm vm1) m meth c Z n0 own bytes ml ret → Lt Z a0 EL s0 vm1 k1 h' → (∀ x, x < h.size → Safe Z EL vm0 h x → Safe Z EL vm1 h' x) → Gc v h' → Go p l e R (s0.setVm vm1) m args below meth c Y n0 G h' k' n' (mkF m pc' Ls (v.toList ++ rest))) :
    Go p l e R (s0.setVm vm0) m args below meth c Y n0 G h k n (mkF m pc Ls S) := fun T ⟨locs, F, X, eT⟩ => by
  subst hp hS hk' hn'
  obtain ⟨v, _, ⟨T', L', k', n'⟩, -, X', hSi, hg, ⟨Lc, ⟨hQ, hF⟩, l1, y1, z1, hC⟩, st⟩ := callSS X C.1 C.2.2.2.2.1 (mvT C.2.1 w1) (mvT C.2.1 w2) (mvT C.2.1 w3) (mvT C.2.1 w4) hy
    (backOfL (W := W) (con (hz C X eT)) L.2.2.2.2.2 w4 w3 hf hl L.2.2.2.1 L.2.2.1.1 hsf) (g := mkF m pc Ls (argsL.reverse ++ rest)) rfl (hsz.trans C.2.2.2.1.symm) (argsL := argsL) (rest := rest) (lenOf hds hlen) rfl (by show 2 * 0 + _ ≤ _; rw [Nat.mul_zero, Nat.zero_add]; exact Nat.le_of_eq hW) (hb C.2.2.1 hd) (fun _ _ => ⟨rfl, eT, hc, hs⟩)
  dsimp only [Pt.U, Pt.locs, Pt.cells, Pt.slots] at X' l1 y1 z1 st hQ hSi hg hC
  subst l1 y1 z1
  have hk0 : k0 ≤ T.heap.size := by rw [eT]; exact L.2.1
  obtain ⟨Xr, Sr, Wr', Or⟩ := rebS L.1 hk0 X' hSi hg C.2.1 C.2.2.2.2.1
  exact step (fun t q => st.trans q) (g T'.vm _ T'.heap v ⟨C.1, Wr', C.2.2.1, C.2.2.2.1, Or, C.2.2.2.2.2.1, C.2.2.2.2.2.2.1, C.2.2.2.2.2.2.2⟩ ⟨Sr, Nat.le_refl _, L.2.2.1.trans hC, L.2.2.2.1, L.2.2.2.2.1, Wr'⟩ (fun x hx Sx => hC.safe hx Sx) hQ T' ⟨_, Fr.app F hF, Xr, rfl⟩)
theorem callSpL (C : Cx p (s0.setVm vm0) m meth c Z n0 own bytes ml ret) {i : Nat} {y : MethodName} {b' : ByteArray} {mL : Nat} {rm : Room} {Gc : Option Value → Heap → Prop} {sf : List Addr} {b : Addr} {argsL rest : List Value} {W : Nat} (L : Lt Z a0 EL s0 vm0 k0 h) (hy1 : y.name = "<init>")
    (w1 : (Cond.methodLink own i y).before a0 Z = true) (w2 : (Cond.instanceMethod y).before a0 Z = true) (w3 : (Cond.initialized y.cls).before a0 Z = true) (w4 : (Cond.code y b' mL none).before a0 Z = true)
    (hy : y.cls ≠ "java/lang/invoke/MethodHandle" ∧ y.cls ≠ "java/lang/invoke/VarHandle") (con : n0 ≤ h.size → ConL l Z EL y b' mL none [] rm rm.cells rm.slots (.ref b :: argsL).toArray h n0 sf Gc) (hsf : ∀ x ∈ sf, x < h.size ∧ Safe Z EL vm0 h x)
    (hd : decode bytes pc = .ok (.invokespecial i, 3)) (hp : pc + 3 = pc') (hsz : Ls.size = ml) {ps : List FieldType} {rr : Option FieldType} (hds : parseMethodDescriptor y.desc = some ⟨ps, rr⟩) (hlen : argsL.length = ps.length)
    (hS : S = argsL.reverse ++ .ref b :: rest) (hW : (rest.map fun v => v.category).sum = W) (hf : rm.frames + 1 ≤ R.frames) (hl : W + (mL + 11) + rm.locals ≤ R.locals) (hc : k + rm.cells ≤ R.cells) (hs : n + rm.slots ≤ R.slots) {k' n' : Nat} (hk' : k + rm.cells = k') (hn' : n + rm.slots = n')
    (g : ∀ vm1 k1 h' v, Cx p (s0.setVm vm1) m meth c Z n0 own bytes ml ret → Lt Z a0 EL s0 vm1 k1 h' → (∀ x, x < h.size → Safe Z EL vm0 h x → Safe Z EL vm1 h' x) → Gc v h' → Go p l e R (s0.setVm vm1) m args below meth c Y n0 G h' k' n' (mkF m pc' Ls (v.toList ++ rest))) :
    Go p l e R (s0.setVm vm0) m args below meth c Y n0 G h k n (mkF m pc Ls S) := fun T ⟨locs, F, X, eT⟩ => by
  subst hp hS hk' hn'
  obtain ⟨v, _, ⟨T', L', k', n'⟩, -, X', hSi, hg, ⟨Lc, ⟨hQ, hF⟩, l1, y1, z1, hC⟩, st⟩ := X.specialBackS C.1 hy1 C.2.2.2.2.1 (mvT C.2.1 w1) (mvT C.2.1 w2) (mvT C.2.1 w4) hy
    (backOfL (W := W) (con (hz C X eT)) L.2.2.2.2.2 w4 w3 hf hl L.2.2.2.1 L.2.2.1.1 hsf) (g := mkF m pc Ls (argsL.reverse ++ .ref b :: rest)) rfl (hsz.trans C.2.2.2.1.symm) (Steps.refl _) (a := b) (argsL := argsL) (rest := rest) (lenOf hds hlen) rfl (by show 2 * 0 + _ ≤ _; rw [Nat.mul_zero, Nat.zero_add]; exact Nat.le_of_eq hW) (hb C.2.2.1 hd) (fun _ _ => ⟨rfl, eT, hc, hs⟩)
  dsimp only [Pt.U, Pt.locs, Pt.cells, Pt.slots] at X' l1 y1 z1 st hQ hSi hg hC
  subst l1 y1 z1
  have hk0 : k0 ≤ T.heap.size := by rw [eT]; exact L.2.1
  obtain ⟨Xr, Sr, Wr', Or⟩ := rebS L.1 hk0 X' hSi hg C.2.1 C.2.2.2.2.1
  exact step (fun t q => st.trans q) (g T'.vm _ T'.heap v ⟨C.1, Wr', C.2.2.1, C.2.2.2.1, Or, C.2.2.2.2.2.1, C.2.2.2.2.2.2.1, C.2.2.2.2.2.2.2⟩ ⟨Sr, Nat.le_refl _, L.2.2.1.trans hC, L.2.2.2.1, L.2.2.2.2.1, Wr'⟩ (fun x hx Sx => hC.safe hx Sx) hQ T' ⟨_, Fr.app F hF, Xr, rfl⟩)
end Lit
end Jvm.Pilot.@@N@@.W
namespace Jvm.Pilot.@@N@@
open Jvm Jvm.ClassFile Sem Op Lib Jvm.Free Jvm.Stand Jvm.LawKit Jvm.RoadKit Bundle Jvm.Pilot.@@N@@.Jvm.D
theorem ef_14_2 (m : MethodId) (o0 : Addr) (o2 : Addr) : entryFrame m #[(.ref o0), (.int (0 : Int32)), (.ref o2), (.int (0 : Int32)), (.int (2 : Int32))] 7 = mkF m 0 #[.val (.ref o0), .val (.int (0 : Int32)), .val (.ref o2), .val (.int (0 : Int32)), .val (.int (2 : Int32)), .unset, .unset] [] := by first | (simp [entryFrame, mkF, argsToLocals, Value.category]; done) | rfl
theorem pn_0 : plainName "java/lang/StringUTF16" = true := by first | (simp [plainName, overriddenIn]; done) | decide +kernel
theorem d14_0 : decode jdk_52_method_21_code 0 = .ok (.iconst 0, 1) := by decide +kernel
theorem d14_1 : decode jdk_52_method_21_code 1 = .ok (.istore 5, 2) := by decide +kernel
theorem d14_3 : decode jdk_52_method_21_code 3 = .ok (.iload 5, 2) := by decide +kernel
theorem d14_5 : decode jdk_52_method_21_code 5 = .ok (.iload 4, 2) := by decide +kernel
theorem d14_7 : decode jdk_52_method_21_code 7 = .ok (.if_icmp .ge 37, 3) := by decide +kernel
theorem d14_10 : decode jdk_52_method_21_code 10 = .ok (.aload_n 0, 1) := by decide +kernel
theorem d14_11 : decode jdk_52_method_21_code 11 = .ok (.iload_n 1, 1) := by decide +kernel
theorem d14_12 : decode jdk_52_method_21_code 12 = .ok (.caload, 1) := by decide +kernel
theorem d14_13 : decode jdk_52_method_21_code 13 = .ok (.istore 6, 2) := by decide +kernel
theorem d14_15 : decode jdk_52_method_21_code 15 = .ok (.iload 6, 2) := by decide +kernel
theorem d14_17 : decode jdk_52_method_21_code 17 = .ok (.sipush 255, 3) := by decide +kernel
theorem d14_20 : decode jdk_52_method_21_code 20 = .ok (.if_icmp .le 6, 3) := by decide +kernel
theorem d14_26 : decode jdk_52_method_21_code 26 = .ok (.aload_n 2, 1) := by decide +kernel
theorem d14_27 : decode jdk_52_method_21_code 27 = .ok (.iload_n 3, 1) := by decide +kernel
theorem d14_28 : decode jdk_52_method_21_code 28 = .ok (.iload 6, 2) := by decide +kernel
theorem d14_30 : decode jdk_52_method_21_code 30 = .ok (.i2b, 1) := by decide +kernel
theorem d14_31 : decode jdk_52_method_21_code 31 = .ok (.bastore, 1) := by decide +kernel
theorem d14_32 : decode jdk_52_method_21_code 32 = .ok (.iinc 1 1, 3) := by decide +kernel
theorem d14_35 : decode jdk_52_method_21_code 35 = .ok (.iinc 3 1, 3) := by decide +kernel
theorem d14_38 : decode jdk_52_method_21_code 38 = .ok (.iinc 5 1, 3) := by decide +kernel
theorem d14_41 : decode jdk_52_method_21_code 41 = .ok (.goto (-38), 3) := by decide +kernel
theorem d14_44 : decode jdk_52_method_21_code 44 = .ok (.iload 4, 2) := by decide +kernel
theorem d14_46 : decode jdk_52_method_21_code 46 = .ok (.ireturn, 1) := by decide +kernel
theorem ef_13_2 (m : MethodId) (o0 : Addr) : entryFrame m #[(.ref o0), (.int (0 : Int32)), (.int (2 : Int32))] 6 = mkF m 0 #[.val (.ref o0), .val (.int (0 : Int32)), .val (.int (2 : Int32)), .unset, .unset, .unset] [] := by first | (simp [entryFrame, mkF, argsToLocals, Value.category]; done) | rfl
theorem d13_0 : decode jdk_52_method_16_code 0 = .ok (.iload_n 2, 1) := by decide +kernel
theorem d13_1 : decode jdk_52_method_16_code 1 = .ok (.newarray .byte, 2) := by decide +kernel
theorem d13_3 : decode jdk_52_method_16_code 3 = .ok (.astore_n 3, 1) := by decide +kernel
theorem d13_4 : decode jdk_52_method_16_code 4 = .ok (.aload_n 0, 1) := by decide +kernel
theorem d13_5 : decode jdk_52_method_16_code 5 = .ok (.iload_n 1, 1) := by decide +kernel
theorem d13_6 : decode jdk_52_method_16_code 6 = .ok (.aload_n 3, 1) := by decide +kernel
theorem d13_7 : decode jdk_52_method_16_code 7 = .ok (.iconst 0, 1) := by decide +kernel
theorem d13_8 : decode jdk_52_method_16_code 8 = .ok (.iload_n 2, 1) := by decide +kernel
theorem d13_9 : decode jdk_52_method_16_code 9 = .ok (.invokestatic 115, 3) := by decide +kernel
theorem pd_0 : parseMethodDescriptor "([CI[BII)I" = some ⟨[(.array .char), .int, (.array .byte), .int, .int], some .int⟩ := by decide +kernel
theorem d13_12 : decode jdk_52_method_16_code 12 = .ok (.istore 4, 2) := by decide +kernel
theorem d13_14 : decode jdk_52_method_16_code 14 = .ok (.iload 4, 2) := by decide +kernel
theorem d13_16 : decode jdk_52_method_16_code 16 = .ok (.iload_n 2, 1) := by decide +kernel
theorem d13_17 : decode jdk_52_method_16_code 17 = .ok (.if_icmp .eq 40, 3) := by decide +kernel
theorem d13_57 : decode jdk_52_method_16_code 57 = .ok (.aload_n 3, 1) := by decide +kernel
theorem d13_58 : decode jdk_52_method_16_code 58 = .ok (.areturn, 1) := by decide +kernel
theorem ef_15_2 (m : MethodId) (o0 : Addr) : entryFrame m #[(.ref o0), (.int (2 : Int32))] 2 = mkF m 0 #[.val (.ref o0), .val (.int (2 : Int32))] [] := by first | (simp [entryFrame, mkF, argsToLocals, Value.category]; done) | rfl
theorem d15_0 : decode jdk_52_method_15_code 0 = .ok (.iload_n 1, 1) := by decide +kernel
theorem d15_1 : decode jdk_52_method_15_code 1 = .ok (.aload_n 0, 1) := by decide +kernel
theorem d15_2 : decode jdk_52_method_15_code 2 = .ok (.arraylength, 1) := by decide +kernel
theorem d15_3 : decode jdk_52_method_15_code 3 = .ok (.isub, 1) := by decide +kernel
theorem d15_4 : decode jdk_52_method_15_code 4 = .ok (.bipush 31, 2) := by decide +kernel
theorem d15_6 : decode jdk_52_method_15_code 6 = .ok (.iushr, 1) := by decide +kernel
theorem d15_7 : decode jdk_52_method_15_code 7 = .ok (.i2b, 1) := by decide +kernel
theorem d15_8 : decode jdk_52_method_15_code 8 = .ok (.ireturn, 1) := by decide +kernel
theorem ef_3_2 (m : MethodId) (o0 : Addr) (o1 : Addr) : entryFrame m #[(.ref o0), (.ref o1), (.int (0 : Int32)), (.int (2 : Int32)), .null] 6 = mkF m 0 #[.val (.ref o0), .val (.ref o1), .val (.int (0 : Int32)), .val (.int (2 : Int32)), .val .null, .unset] [] := by first | (simp [entryFrame, mkF, argsToLocals, Value.category]; done) | rfl
theorem pn_1 : plainName "java/lang/String" = true := by first | (simp [plainName, overriddenIn]; done) | decide +kernel
theorem d3_0 : decode jdk_42_method_149_code 0 = .ok (.aload_n 0, 1) := by decide +kernel
theorem d3_1 : decode jdk_42_method_149_code 1 = .ok (.invokespecial 1, 3) := by decide +kernel
theorem d3_4 : decode jdk_42_method_149_code 4 = .ok (.iload_n 3, 1) := by decide +kernel
theorem d3_5 : decode jdk_42_method_149_code 5 = .ok (.ifCond .ne 22, 3) := by decide +kernel
theorem d3_27 : decode jdk_42_method_149_code 27 = .ok (.getstatic 38, 3) := by decide +kernel
theorem d3_30 : decode jdk_42_method_149_code 30 = .ok (.ifCond .eq 28, 3) := by decide +kernel
theorem d3_33 : decode jdk_42_method_149_code 33 = .ok (.aload_n 1, 1) := by decide +kernel
theorem d3_34 : decode jdk_42_method_149_code 34 = .ok (.iload_n 2, 1) := by decide +kernel
theorem d3_35 : decode jdk_42_method_149_code 35 = .ok (.iload_n 3, 1) := by decide +kernel
theorem d3_36 : decode jdk_42_method_149_code 36 = .ok (.invokestatic 177, 3) := by decide +kernel
theorem pd_1 : parseMethodDescriptor "([CII)[B" = some ⟨[(.array .char), .int, .int], some (.array .byte)⟩ := by decide +kernel
theorem d3_39 : decode jdk_42_method_149_code 39 = .ok (.astore 5, 2) := by decide +kernel
theorem d3_41 : decode jdk_42_method_149_code 41 = .ok (.aload_n 0, 1) := by decide +kernel
theorem d3_42 : decode jdk_42_method_149_code 42 = .ok (.aload 5, 2) := by decide +kernel
theorem d3_44 : decode jdk_42_method_149_code 44 = .ok (.iload_n 3, 1) := by decide +kernel
theorem d3_45 : decode jdk_42_method_149_code 45 = .ok (.invokestatic 47, 3) := by decide +kernel
theorem pd_2 : parseMethodDescriptor "([BI)B" = some ⟨[(.array .byte), .int], some .byte⟩ := by decide +kernel
theorem d3_48 : decode jdk_42_method_149_code 48 = .ok (.putfield 15, 3) := by decide +kernel
theorem d3_51 : decode jdk_42_method_149_code 51 = .ok (.aload_n 0, 1) := by decide +kernel
theorem d3_52 : decode jdk_42_method_149_code 52 = .ok (.aload 5, 2) := by decide +kernel
theorem d3_54 : decode jdk_42_method_149_code 54 = .ok (.putfield 9, 3) := by decide +kernel
theorem d3_57 : decode jdk_42_method_149_code 57 = .ok (.return_, 1) := by decide +kernel
theorem ef_2_2 (m : MethodId) (o0 : Addr) (o1 : Addr) : entryFrame m #[(.ref o0), (.ref o1)] 2 = mkF m 0 #[.val (.ref o0), .val (.ref o1)] [] := by first | (simp [entryFrame, mkF, argsToLocals, Value.category]; done) | rfl
theorem d2_0 : decode jdk_42_method_3_code 0 = .ok (.aload_n 0, 1) := by decide +kernel
theorem d2_1 : decode jdk_42_method_3_code 1 = .ok (.aload_n 1, 1) := by decide +kernel
theorem d2_2 : decode jdk_42_method_3_code 2 = .ok (.iconst 0, 1) := by decide +kernel
theorem d2_3 : decode jdk_42_method_3_code 3 = .ok (.aload_n 1, 1) := by decide +kernel
theorem d2_4 : decode jdk_42_method_3_code 4 = .ok (.arraylength, 1) := by decide +kernel
theorem d2_5 : decode jdk_42_method_3_code 5 = .ok (.aconst_null, 1) := by decide +kernel
theorem d2_6 : decode jdk_42_method_3_code 6 = .ok (.invokespecial 27, 3) := by decide +kernel
theorem pd_3 : parseMethodDescriptor "([CIILjava/lang/Void;)V" = some ⟨[(.array .char), .int, .int, (.object "java/lang/Void")], none⟩ := by decide +kernel
theorem d2_9 : decode jdk_42_method_3_code 9 = .ok (.return_, 1) := by decide +kernel
theorem ef_3_0 (m : MethodId) (o0 : Addr) (o1 : Addr) : entryFrame m #[(.ref o0), (.ref o1), (.int (0 : Int32)), (.int (0 : Int32)), .null] 6 = mkF m 0 #[.val (.ref o0), .val (.ref o1), .val (.int (0 : Int32)), .val (.int (0 : Int32)), .val .null, .unset] [] := by first | (simp [entryFrame, mkF, argsToLocals, Value.category]; done) | rfl
theorem d3_8 : decode jdk_42_method_149_code 8 = .ok (.aload_n 0, 1) := by decide +kernel
theorem d3_9 : decode jdk_42_method_149_code 9 = .ok (.ldc 7, 2) := by decide +kernel
theorem tx_0 : (∀ c ∈ "".toList, c.toNat < 256) ∧ "".toList.map (fun c => Value.int (Jvm.Lit.byteI c.toNat.toUInt16)) = [] := by
  have e : "".toList = [] := by first | rfl | decide +kernel | simp
  rw [e]; constructor
  · decide
  · rfl
theorem txl_0 : 4 * "".toList.length ≤ 0 := by
  have e : "".toList = [] := by first | rfl | decide +kernel | simp
  rw [e]; decide
theorem d3_11 : decode jdk_42_method_149_code 11 = .ok (.getfield 9, 3) := by decide +kernel
theorem d3_14 : decode jdk_42_method_149_code 14 = .ok (.putfield 9, 3) := by decide +kernel
theorem d3_17 : decode jdk_42_method_149_code 17 = .ok (.aload_n 0, 1) := by decide +kernel
theorem d3_18 : decode jdk_42_method_149_code 18 = .ok (.ldc 7, 2) := by decide +kernel
theorem d3_20 : decode jdk_42_method_149_code 20 = .ok (.getfield 15, 3) := by decide +kernel
theorem d3_23 : decode jdk_42_method_149_code 23 = .ok (.putfield 15, 3) := by decide +kernel
theorem d3_26 : decode jdk_42_method_149_code 26 = .ok (.return_, 1) := by decide +kernel
theorem ef_2_0 (m : MethodId) (o0 : Addr) (o1 : Addr) : entryFrame m #[(.ref o0), (.ref o1)] 2 = mkF m 0 #[.val (.ref o0), .val (.ref o1)] [] := by first | (simp [entryFrame, mkF, argsToLocals, Value.category]; done) | rfl
theorem ef_10v (m : MethodId) (p0 : Int32) : entryFrame m #[(.int p0)] 1 = mkF m 0 #[.val (.int p0)] [] := by first | (simp [entryFrame, mkF, argsToLocals, Value.category]; done) | rfl
theorem pn_2 : plainName "java/lang/StringLatin1" = true := by first | (simp [plainName, overriddenIn]; done) | decide +kernel
theorem d10_0 : decode jdk_43_method_3_code 0 = .ok (.iload_n 0, 1) := by decide +kernel
theorem d10_1 : decode jdk_43_method_3_code 1 = .ok (.sipush 255, 3) := by decide +kernel
theorem d10_4 : decode jdk_43_method_3_code 4 = .ok (.if_icmp .gt 7, 3) := by decide +kernel
theorem d10_7 : decode jdk_43_method_3_code 7 = .ok (.iconst 1, 1) := by decide +kernel
theorem d10_8 : decode jdk_43_method_3_code 8 = .ok (.goto 4, 3) := by decide +kernel
theorem d10_12 : decode jdk_43_method_3_code 12 = .ok (.ireturn, 1) := by decide +kernel
theorem ef_11v (m : MethodId) (p0 : Int32) : entryFrame m #[(.int p0)] 1 = mkF m 0 #[.val (.int p0)] [] := by first | (simp [entryFrame, mkF, argsToLocals, Value.category]; done) | rfl
theorem d11_0 : decode jdk_43_method_46_code 0 = .ok (.iconst 1, 1) := by decide +kernel
theorem d11_1 : decode jdk_43_method_46_code 1 = .ok (.newarray .byte, 2) := by decide +kernel
theorem d11_3 : decode jdk_43_method_46_code 3 = .ok (.dup, 1) := by decide +kernel
theorem d11_4 : decode jdk_43_method_46_code 4 = .ok (.iconst 0, 1) := by decide +kernel
theorem d11_5 : decode jdk_43_method_46_code 5 = .ok (.iload_n 0, 1) := by decide +kernel
theorem d11_6 : decode jdk_43_method_46_code 6 = .ok (.i2b, 1) := by decide +kernel
theorem d11_7 : decode jdk_43_method_46_code 7 = .ok (.bastore, 1) := by decide +kernel
theorem d11_8 : decode jdk_43_method_46_code 8 = .ok (.areturn, 1) := by decide +kernel
theorem ef_12v (m : MethodId) (o0 : Addr) (o1 : Addr) : entryFrame m #[(.ref o0), (.ref o1), (.int (0 : Int32))] 3 = mkF m 0 #[.val (.ref o0), .val (.ref o1), .val (.int (0 : Int32))] [] := by first | (simp [entryFrame, mkF, argsToLocals, Value.category]; done) | rfl
theorem d12_0 : decode jdk_42_method_151_code 0 = .ok (.aload_n 0, 1) := by decide +kernel
theorem d12_1 : decode jdk_42_method_151_code 1 = .ok (.invokespecial 1, 3) := by decide +kernel
theorem d12_4 : decode jdk_42_method_151_code 4 = .ok (.aload_n 0, 1) := by decide +kernel
theorem d12_5 : decode jdk_42_method_151_code 5 = .ok (.aload_n 1, 1) := by decide +kernel
theorem d12_6 : decode jdk_42_method_151_code 6 = .ok (.putfield 9, 3) := by decide +kernel
theorem d12_9 : decode jdk_42_method_151_code 9 = .ok (.aload_n 0, 1) := by decide +kernel
theorem d12_10 : decode jdk_42_method_151_code 10 = .ok (.iload_n 2, 1) := by decide +kernel
theorem d12_11 : decode jdk_42_method_151_code 11 = .ok (.putfield 15, 3) := by decide +kernel
theorem d12_14 : decode jdk_42_method_151_code 14 = .ok (.return_, 1) := by decide +kernel
theorem ef_9v (m : MethodId) (p0 : Int32) : entryFrame m #[(.int p0)] 1 = mkF m 0 #[.val (.int p0)] [] := by first | (simp [entryFrame, mkF, argsToLocals, Value.category]; done) | rfl
theorem d9_0 : decode jdk_42_method_139_code 0 = .ok (.getstatic 38, 3) := by decide +kernel
theorem d9_3 : decode jdk_42_method_139_code 3 = .ok (.ifCond .eq 23, 3) := by decide +kernel
theorem d9_6 : decode jdk_42_method_139_code 6 = .ok (.iload_n 0, 1) := by decide +kernel
theorem d9_7 : decode jdk_42_method_139_code 7 = .ok (.invokestatic 1015, 3) := by decide +kernel
theorem pd_4 : parseMethodDescriptor "(C)Z" = some ⟨[.char], some .boolean⟩ := by decide +kernel
theorem d9_10 : decode jdk_42_method_139_code 10 = .ok (.ifCond .eq 16, 3) := by decide +kernel
theorem d9_13 : decode jdk_42_method_139_code 13 = .ok (.new 10, 3) := by decide +kernel
theorem d9_16 : decode jdk_42_method_139_code 16 = .ok (.dup, 1) := by decide +kernel
theorem d9_17 : decode jdk_42_method_139_code 17 = .ok (.iload_n 0, 1) := by decide +kernel
theorem d9_18 : decode jdk_42_method_139_code 18 = .ok (.invokestatic 1018, 3) := by decide +kernel
theorem pd_5 : parseMethodDescriptor "(C)[B" = some ⟨[.char], some (.array .byte)⟩ := by decide +kernel
theorem d9_21 : decode jdk_42_method_139_code 21 = .ok (.iconst 0, 1) := by decide +kernel
theorem d9_22 : decode jdk_42_method_139_code 22 = .ok (.invokespecial 209, 3) := by decide +kernel
theorem pd_6 : parseMethodDescriptor "([BB)V" = some ⟨[(.array .byte), .byte], none⟩ := by decide +kernel
theorem d9_25 : decode jdk_42_method_139_code 25 = .ok (.areturn, 1) := by decide +kernel
theorem ef_8g (m : MethodId) (av : Addr) (bv : Addr) : entryFrame m #[(.ref av), (.ref bv)] 3 = mkF m 0 #[.val (.ref av), .val (.ref bv), .unset] [] := by first | (simp [entryFrame, mkF, argsToLocals, Value.category]; done) | rfl
theorem d8_0 : decode jdk_43_method_13_code 0 = .ok (.aload_n 0, 1) := by decide +kernel
theorem d8_1 : decode jdk_43_method_13_code 1 = .ok (.arraylength, 1) := by decide +kernel
theorem d8_2 : decode jdk_43_method_13_code 2 = .ok (.aload_n 1, 1) := by decide +kernel
theorem d8_3 : decode jdk_43_method_13_code 3 = .ok (.arraylength, 1) := by decide +kernel
theorem d8_4 : decode jdk_43_method_13_code 4 = .ok (.if_icmp .ne 30, 3) := by decide +kernel
theorem d8_34 : decode jdk_43_method_13_code 34 = .ok (.iconst 0, 1) := by decide +kernel
theorem d8_35 : decode jdk_43_method_13_code 35 = .ok (.ireturn, 1) := by decide +kernel
theorem d8_7 : decode jdk_43_method_13_code 7 = .ok (.iconst 0, 1) := by decide +kernel
theorem d8_8 : decode jdk_43_method_13_code 8 = .ok (.istore_n 2, 1) := by decide +kernel
theorem d8_9 : decode jdk_43_method_13_code 9 = .ok (.iload_n 2, 1) := by decide +kernel
theorem d8_10 : decode jdk_43_method_13_code 10 = .ok (.aload_n 0, 1) := by decide +kernel
theorem d8_11 : decode jdk_43_method_13_code 11 = .ok (.arraylength, 1) := by decide +kernel
theorem d8_12 : decode jdk_43_method_13_code 12 = .ok (.if_icmp .ge 20, 3) := by decide +kernel
theorem d8_32 : decode jdk_43_method_13_code 32 = .ok (.iconst 1, 1) := by decide +kernel
theorem d8_33 : decode jdk_43_method_13_code 33 = .ok (.ireturn, 1) := by decide +kernel
theorem d8_15 : decode jdk_43_method_13_code 15 = .ok (.aload_n 0, 1) := by decide +kernel
theorem d8_16 : decode jdk_43_method_13_code 16 = .ok (.iload_n 2, 1) := by decide +kernel
theorem d8_17 : decode jdk_43_method_13_code 17 = .ok (.baload, 1) := by decide +kernel
theorem d8_18 : decode jdk_43_method_13_code 18 = .ok (.aload_n 1, 1) := by decide +kernel
theorem d8_19 : decode jdk_43_method_13_code 19 = .ok (.iload_n 2, 1) := by decide +kernel
theorem d8_20 : decode jdk_43_method_13_code 20 = .ok (.baload, 1) := by decide +kernel
theorem d8_21 : decode jdk_43_method_13_code 21 = .ok (.if_icmp .eq 5, 3) := by decide +kernel
theorem d8_26 : decode jdk_43_method_13_code 26 = .ok (.iinc 2 1, 3) := by decide +kernel
theorem d8_29 : decode jdk_43_method_13_code 29 = .ok (.goto (-20), 3) := by decide +kernel
theorem d8_24 : decode jdk_43_method_13_code 24 = .ok (.iconst 0, 1) := by decide +kernel
theorem d8_25 : decode jdk_43_method_13_code 25 = .ok (.ireturn, 1) := by decide +kernel
theorem ef_7g (m : MethodId) (o0 : Addr) (o1 : Addr) : entryFrame m #[(.ref o0), (.ref o1)] 3 = mkF m 0 #[.val (.ref o0), .val (.ref o1), .unset] [] := by first | (simp [entryFrame, mkF, argsToLocals, Value.category]; done) | rfl
theorem d7_0 : decode jdk_42_method_66_code 0 = .ok (.aload_n 0, 1) := by decide +kernel
theorem d7_1 : decode jdk_42_method_66_code 1 = .ok (.aload_n 1, 1) := by decide +kernel
theorem d7_2 : decode jdk_42_method_66_code 2 = .ok (.if_acmp .ne 5, 3) := by decide +kernel
theorem d7_7 : decode jdk_42_method_66_code 7 = .ok (.aload_n 1, 1) := by decide +kernel
theorem d7_8 : decode jdk_42_method_66_code 8 = .ok (.instanceof 10, 3) := by decide +kernel
theorem d7_11 : decode jdk_42_method_66_code 11 = .ok (.ifCond .eq 43, 3) := by decide +kernel
theorem d7_14 : decode jdk_42_method_66_code 14 = .ok (.aload_n 1, 1) := by decide +kernel
theorem d7_15 : decode jdk_42_method_66_code 15 = .ok (.checkcast 10, 3) := by decide +kernel
theorem d7_18 : decode jdk_42_method_66_code 18 = .ok (.astore_n 2, 1) := by decide +kernel
theorem d7_19 : decode jdk_42_method_66_code 19 = .ok (.getstatic 38, 3) := by decide +kernel
theorem d7_22 : decode jdk_42_method_66_code 22 = .ok (.ifCond .eq 14, 3) := by decide +kernel
theorem d7_25 : decode jdk_42_method_66_code 25 = .ok (.aload_n 0, 1) := by decide +kernel
theorem d7_26 : decode jdk_42_method_66_code 26 = .ok (.getfield 15, 3) := by decide +kernel
theorem d7_29 : decode jdk_42_method_66_code 29 = .ok (.aload_n 2, 1) := by decide +kernel
theorem d7_30 : decode jdk_42_method_66_code 30 = .ok (.getfield 15, 3) := by decide +kernel
theorem d7_33 : decode jdk_42_method_66_code 33 = .ok (.if_icmp .ne 21, 3) := by decide +kernel
theorem d7_36 : decode jdk_42_method_66_code 36 = .ok (.aload_n 0, 1) := by decide +kernel
theorem d7_37 : decode jdk_42_method_66_code 37 = .ok (.getfield 9, 3) := by decide +kernel
theorem d7_40 : decode jdk_42_method_66_code 40 = .ok (.aload_n 2, 1) := by decide +kernel
theorem d7_41 : decode jdk_42_method_66_code 41 = .ok (.getfield 9, 3) := by decide +kernel
theorem d7_44 : decode jdk_42_method_66_code 44 = .ok (.invokestatic 541, 3) := by decide +kernel
theorem pd_7 : parseMethodDescriptor "([B[B)Z" = some ⟨[(.array .byte), (.array .byte)], some .boolean⟩ := by decide +kernel
theorem d7_47 : decode jdk_42_method_66_code 47 = .ok (.ifCond .eq 7, 3) := by decide +kernel
theorem d7_50 : decode jdk_42_method_66_code 50 = .ok (.iconst 1, 1) := by decide +kernel
theorem d7_51 : decode jdk_42_method_66_code 51 = .ok (.goto 4, 3) := by decide +kernel
theorem d7_55 : decode jdk_42_method_66_code 55 = .ok (.ireturn, 1) := by decide +kernel
theorem d7_54 : decode jdk_42_method_66_code 54 = .ok (.iconst 0, 1) := by decide +kernel
theorem d7_5 : decode jdk_42_method_66_code 5 = .ok (.iconst 1, 1) := by decide +kernel
theorem d7_6 : decode jdk_42_method_66_code 6 = .ok (.ireturn, 1) := by decide +kernel
theorem ef_1 (m : MethodId) (p0 : Int32) (p1 : Int32) (p2 : Int32) : entryFrame m #[(.int p0), (.int p1), (.int p2)] 4 = mkF m 0 #[.val (.int p0), .val (.int p1), .val (.int p2), .unset] [] := by first | (simp [entryFrame, mkF, argsToLocals, Value.category]; done) | rfl
theorem pn_3 : plainName "com/example/useful_few/usefulfew/engine/PostEqualsPinLaw" = true := by first | (simp [plainName, overriddenIn]; done) | decide +kernel
theorem d1_0 : decode method_2_code 0 = .ok (.iload_n 0, 1) := by decide +kernel
theorem d1_1 : decode method_2_code 1 = .ok (.ifCond .ne 14, 3) := by decide +kernel
theorem d1_15 : decode method_2_code 15 = .ok (.iload_n 0, 1) := by decide +kernel
theorem d1_16 : decode method_2_code 16 = .ok (.iconst 1, 1) := by decide +kernel
theorem d1_17 : decode method_2_code 17 = .ok (.if_icmp .ne 8, 3) := by decide +kernel
theorem d1_25 : decode method_2_code 25 = .ok (.iconst 2, 1) := by decide +kernel
theorem d1_26 : decode method_2_code 26 = .ok (.newarray .char, 2) := by decide +kernel
theorem d1_28 : decode method_2_code 28 = .ok (.astore_n 3, 1) := by decide +kernel
theorem d1_29 : decode method_2_code 29 = .ok (.aload_n 3, 1) := by decide +kernel
theorem d1_30 : decode method_2_code 30 = .ok (.iconst 0, 1) := by decide +kernel
theorem d1_31 : decode method_2_code 31 = .ok (.iload_n 1, 1) := by decide +kernel
theorem d1_32 : decode method_2_code 32 = .ok (.castore, 1) := by decide +kernel
theorem d1_33 : decode method_2_code 33 = .ok (.aload_n 3, 1) := by decide +kernel
theorem d1_34 : decode method_2_code 34 = .ok (.iconst 1, 1) := by decide +kernel
theorem d1_35 : decode method_2_code 35 = .ok (.iload_n 2, 1) := by decide +kernel
theorem d1_36 : decode method_2_code 36 = .ok (.castore, 1) := by decide +kernel
theorem d1_37 : decode method_2_code 37 = .ok (.new 7, 3) := by decide +kernel
theorem d1_40 : decode method_2_code 40 = .ok (.dup, 1) := by decide +kernel
theorem d1_41 : decode method_2_code 41 = .ok (.aload_n 3, 1) := by decide +kernel
theorem d1_42 : decode method_2_code 42 = .ok (.invokespecial 9, 3) := by decide +kernel
theorem pd_8 : parseMethodDescriptor "([C)V" = some ⟨[(.array .char)], none⟩ := by decide +kernel
theorem d1_45 : decode method_2_code 45 = .ok (.areturn, 1) := by decide +kernel
theorem d1_20 : decode method_2_code 20 = .ok (.iload_n 1, 1) := by decide +kernel
theorem d1_21 : decode method_2_code 21 = .ok (.invokestatic 12, 3) := by decide +kernel
theorem pd_9 : parseMethodDescriptor "(C)Ljava/lang/String;" = some ⟨[.char], some (.object "java/lang/String")⟩ := by decide +kernel
theorem d1_24 : decode method_2_code 24 = .ok (.areturn, 1) := by decide +kernel
theorem d1_4 : decode method_2_code 4 = .ok (.new 7, 3) := by decide +kernel
theorem d1_7 : decode method_2_code 7 = .ok (.dup, 1) := by decide +kernel
theorem d1_8 : decode method_2_code 8 = .ok (.iconst 0, 1) := by decide +kernel
theorem d1_9 : decode method_2_code 9 = .ok (.newarray .char, 2) := by decide +kernel
theorem d1_11 : decode method_2_code 11 = .ok (.invokespecial 9, 3) := by decide +kernel
theorem d1_14 : decode method_2_code 14 = .ok (.areturn, 1) := by decide +kernel
theorem ef_5 (m : MethodId) (o0 : Addr) (o1 : Addr) (p2 : Int32) (q3 : Int64) (p4 : Int32) : entryFrame m #[(.ref o0), (.ref o1), (.int p2), (.long q3), (.int p4)] 6 = mkF m 0 #[.val (.ref o0), .val (.ref o1), .val (.int p2), .val (.long q3), .second, .val (.int p4)] [] := by first | (simp [entryFrame, mkF, argsToLocals, Value.category]; done) | rfl
theorem pn_4 : plainName "com/example/useful_few/usefulfew/engine/Post" = true := by first | (simp [plainName, overriddenIn]; done) | decide +kernel
theorem d5_0 : decode prog_19_method_1_code 0 = .ok (.aload_n 0, 1) := by decide +kernel
theorem d5_1 : decode prog_19_method_1_code 1 = .ok (.invokespecial 1, 3) := by decide +kernel
theorem d5_4 : decode prog_19_method_1_code 4 = .ok (.aload_n 0, 1) := by decide +kernel
theorem d5_5 : decode prog_19_method_1_code 5 = .ok (.aload_n 1, 1) := by decide +kernel
theorem d5_6 : decode prog_19_method_1_code 6 = .ok (.putfield 7, 3) := by decide +kernel
theorem d5_9 : decode prog_19_method_1_code 9 = .ok (.aload_n 0, 1) := by decide +kernel
theorem d5_10 : decode prog_19_method_1_code 10 = .ok (.iload_n 2, 1) := by decide +kernel
theorem d5_11 : decode prog_19_method_1_code 11 = .ok (.putfield 13, 3) := by decide +kernel
theorem d5_14 : decode prog_19_method_1_code 14 = .ok (.aload_n 0, 1) := by decide +kernel
theorem d5_15 : decode prog_19_method_1_code 15 = .ok (.lload_n 3, 1) := by decide +kernel
theorem d5_16 : decode prog_19_method_1_code 16 = .ok (.putfield 17, 3) := by decide +kernel
theorem d5_19 : decode prog_19_method_1_code 19 = .ok (.aload_n 0, 1) := by decide +kernel
theorem d5_20 : decode prog_19_method_1_code 20 = .ok (.iload 5, 2) := by decide +kernel
theorem d5_22 : decode prog_19_method_1_code 22 = .ok (.putfield 21, 3) := by decide +kernel
theorem d5_25 : decode prog_19_method_1_code 25 = .ok (.return_, 1) := by decide +kernel
theorem ef_6e (m : MethodId) (o0 : Addr) (o1 : Addr) : entryFrame m #[(.ref o0), (.ref o1)] 3 = mkF m 0 #[.val (.ref o0), .val (.ref o1), .unset] [] := by first | (simp [entryFrame, mkF, argsToLocals, Value.category]; done) | rfl
theorem d6_0 : decode prog_19_method_6_code 0 = .ok (.aload_n 1, 1) := by decide +kernel
theorem d6_1 : decode prog_19_method_6_code 1 = .ok (.instanceof 8, 3) := by decide +kernel
theorem d6_4 : decode prog_19_method_6_code 4 = .ok (.ifCond .ne 5, 3) := by decide +kernel
theorem d6_9 : decode prog_19_method_6_code 9 = .ok (.aload_n 1, 1) := by decide +kernel
theorem d6_10 : decode prog_19_method_6_code 10 = .ok (.checkcast 8, 3) := by decide +kernel
theorem d6_13 : decode prog_19_method_6_code 13 = .ok (.astore_n 2, 1) := by decide +kernel
theorem d6_14 : decode prog_19_method_6_code 14 = .ok (.aload_n 0, 1) := by decide +kernel
theorem d6_15 : decode prog_19_method_6_code 15 = .ok (.getfield 7, 3) := by decide +kernel
theorem d6_18 : decode prog_19_method_6_code 18 = .ok (.aload_n 2, 1) := by decide +kernel
theorem d6_19 : decode prog_19_method_6_code 19 = .ok (.getfield 7, 3) := by decide +kernel
theorem d6_22 : decode prog_19_method_6_code 22 = .ok (.invokevirtual 24, 3) := by decide +kernel
theorem pd_10 : parseMethodDescriptor "(Ljava/lang/Object;)Z" = some ⟨[(.object "java/lang/Object")], some .boolean⟩ := by decide +kernel
theorem d6_25 : decode prog_19_method_6_code 25 = .ok (.ifCond .eq 41, 3) := by decide +kernel
theorem d6_28 : decode prog_19_method_6_code 28 = .ok (.aload_n 0, 1) := by decide +kernel
theorem d6_29 : decode prog_19_method_6_code 29 = .ok (.getfield 13, 3) := by decide +kernel
theorem d6_32 : decode prog_19_method_6_code 32 = .ok (.aload_n 2, 1) := by decide +kernel
theorem d6_33 : decode prog_19_method_6_code 33 = .ok (.getfield 13, 3) := by decide +kernel
theorem d6_36 : decode prog_19_method_6_code 36 = .ok (.if_icmp .ne 30, 3) := by decide +kernel
theorem d6_66 : decode prog_19_method_6_code 66 = .ok (.iconst 0, 1) := by decide +kernel
theorem d6_67 : decode prog_19_method_6_code 67 = .ok (.ireturn, 1) := by decide +kernel
theorem d6_39 : decode prog_19_method_6_code 39 = .ok (.aload_n 0, 1) := by decide +kernel
theorem d6_40 : decode prog_19_method_6_code 40 = .ok (.getfield 17, 3) := by decide +kernel
theorem d6_43 : decode prog_19_method_6_code 43 = .ok (.aload_n 2, 1) := by decide +kernel
theorem d6_44 : decode prog_19_method_6_code 44 = .ok (.getfield 17, 3) := by decide +kernel
theorem d6_47 : decode prog_19_method_6_code 47 = .ok (.lcmp, 1) := by decide +kernel
theorem d6_48 : decode prog_19_method_6_code 48 = .ok (.ifCond .ne 18, 3) := by decide +kernel
theorem d6_51 : decode prog_19_method_6_code 51 = .ok (.aload_n 0, 1) := by decide +kernel
theorem d6_52 : decode prog_19_method_6_code 52 = .ok (.getfield 21, 3) := by decide +kernel
theorem d6_55 : decode prog_19_method_6_code 55 = .ok (.aload_n 2, 1) := by decide +kernel
theorem d6_56 : decode prog_19_method_6_code 56 = .ok (.getfield 21, 3) := by decide +kernel
theorem d6_59 : decode prog_19_method_6_code 59 = .ok (.if_icmp .ne 7, 3) := by decide +kernel
theorem d6_62 : decode prog_19_method_6_code 62 = .ok (.iconst 1, 1) := by decide +kernel
theorem d6_63 : decode prog_19_method_6_code 63 = .ok (.goto 4, 3) := by decide +kernel
theorem ef_6n (m : MethodId) (o0 : Addr) : entryFrame m #[(.ref o0), .null] 3 = mkF m 0 #[.val (.ref o0), .val .null, .unset] [] := by first | (simp [entryFrame, mkF, argsToLocals, Value.category]; done) | rfl
theorem d6_7 : decode prog_19_method_6_code 7 = .ok (.iconst 0, 1) := by decide +kernel
theorem d6_8 : decode prog_19_method_6_code 8 = .ok (.ireturn, 1) := by decide +kernel
theorem ef_6s (m : MethodId) (o0 : Addr) (o1 : Addr) : entryFrame m #[(.ref o0), (.ref o1)] 3 = mkF m 0 #[.val (.ref o0), .val (.ref o1), .unset] [] := by first | (simp [entryFrame, mkF, argsToLocals, Value.category]; done) | rfl
theorem ef_0 (m : MethodId) (p0 : Int32) (p1 : Int32) (q2 : Int64) (p3 : Int32) (p4 : Int32) (q5 : Int64) : entryFrame m #[(.int p0), (.int p1), (.long q2), (.int p3), (.int p4), (.long q5)] maxLocals = mkF m 0 #[.val (.int p0), .val (.int p1), .val (.long q2), .second, .val (.int p3), .val (.int p4), .val (.long q5), .second, .unset, .unset, .unset, .unset, .unset, .unset, .unset, .unset, .unset, .unset, .unset, .unset, .unset, .unset, .unset, .unset, .unset, .unset, .unset, .unset, .unset] [] := by first | (simp [entryFrame, mkF, argsToLocals, Value.category, maxLocals]; done) | rfl
theorem pd_11 : parseMethodDescriptor "(ICC)Ljava/lang/String;" = some ⟨[.int, .char, .char], some (.object "java/lang/String")⟩ := by decide +kernel
theorem pd_12 : parseMethodDescriptor "(Ljava/lang/String;IJI)V" = some ⟨[(.object "java/lang/String"), .int, .long, .int], none⟩ := by decide +kernel
def own_Str (Z : State) (h : Heap) (a v : Addr) (k : ClassId) (z : Int32) (vs : List Value) : Prop := Exa Z h a "java/lang/String" ∧ Fld Z h a "java/lang/String" "coder" "B" (.int 0) ∧ Fld Z h a "java/lang/String" "value" "[B" (.ref v) ∧ Arv Z h v k .byte z vs (.int 0)
def own_b (x : Int32) : Value := .int (nar .byte (x.toInt8.toInt32))
theorem own_narb (x : Int32) : nar .byte x = x.toInt8.toInt32 := rfl
theorem own_binj (x y : Int32) (h1 : 0 ≤ x.toInt ∧ x.toInt ≤ 255) (h2 : 0 ≤ y.toInt ∧ y.toInt ≤ 255) (e : own_b x = own_b y) : x = y := by
  have e := Value.int.inj e
  rw [own_narb, own_narb, Int8.toInt8_toInt32, Int8.toInt8_toInt32] at e
  have a := c_i2b x
  have b := c_i2b y
  rw [e] at a
  exact Int32.toInt_inj.mp (by omega)
theorem own_narc (x : Int32) (h : 0 ≤ x.toInt ∧ x.toInt ≤ 255) : nar .char x = x := by
  have e : nar .char x = x.toUInt32.toUInt16.toUInt32.toInt32 := rfl
  have a := c_i2c x
  rw [← e] at a
  exact Int32.toInt_inj.mp (by omega)
def own_bs (n x y : Int32) : List Value := if n = 0 then [] else if n = 1 then [own_b x] else [own_b x, own_b y]
theorem own_bs0 (x y : Int32) : own_bs 0 x y = [] := rfl
theorem own_bs1 (x y : Int32) : own_bs 1 x y = [own_b x] := rfl
theorem own_bs2 (x y : Int32) : own_bs 2 x y = [own_b x, own_b y] := rfl
theorem own_n3 (n : Int32) (h : 0 ≤ n.toInt ∧ n.toInt ≤ 2) : n = 0 ∨ n = 1 ∨ n = 2 := by
  rcases (by omega : n.toInt = 0 ∨ n.toInt = 1 ∨ n.toInt = 2) with q | q | q
  · exact Or.inl (Int32.toInt_inj.mp q)
  · exact Or.inr (Or.inl (Int32.toInt_inj.mp q))
  · exact Or.inr (Or.inr (Int32.toInt_inj.mp q))
theorem own_bsl (n x y : Int32) (h : 0 ≤ n.toInt ∧ n.toInt ≤ 2) : (own_bs n x y).length = n.toInt.toNat := by
  rcases own_n3 n h with rfl | rfl | rfl <;> rfl
theorem own_bsi (n x y : Int32) : ∀ i : Nat, ∃ z : Int32, (own_bs n x y).getD i (.int 0) = .int z := by
  intro i
  unfold own_bs
  split
  · exact ⟨0, rfl⟩
  · split
    · match i with
      | 0 => exact ⟨_, rfl⟩
      | i + 1 => exact ⟨0, rfl⟩
    · match i with
      | 0 => exact ⟨_, rfl⟩
      | 1 => exact ⟨_, rfl⟩
      | i + 2 => exact ⟨0, rfl⟩
def own_same (la a1 a2 lb b1 b2 : Int32) : Prop := la = lb ∧ (la.toInt < 1 ∨ a1 = b1) ∧ (la.toInt < 2 ∨ a2 = b2)
set_option maxRecDepth 65536 in
theorem own_bseq (la a1 a2 lb b1 b2 : Int32) (h1 : 0 ≤ la.toInt ∧ la.toInt ≤ 2) (h2 : 0 ≤ lb.toInt ∧ lb.toInt ≤ 2) (r1 : 0 ≤ a1.toInt ∧ a1.toInt ≤ 255) (r2 : 0 ≤ a2.toInt ∧ a2.toInt ≤ 255) (r3 : 0 ≤ b1.toInt ∧ b1.toInt ≤ 255) (r4 : 0 ≤ b2.toInt ∧ b2.toInt ≤ 255) : own_bs la a1 a2 = own_bs lb b1 b2 ↔ own_same la a1 a2 lb b1 b2 := by
  unfold own_same
  constructor
  · intro e
    have el : la = lb := by
      have q := congrArg List.length e
      rw [own_bsl _ _ _ h1, own_bsl _ _ _ h2] at q
      exact Int32.toInt_inj.mp (by omega)
    subst el
    refine ⟨rfl, ?_, ?_⟩
    · rcases own_n3 la h1 with rfl | rfl | rfl
      · left; decide
      · right; rw [own_bs1, own_bs1] at e; exact own_binj _ _ r1 r3 (List.cons.inj e).1
      · right; rw [own_bs2, own_bs2] at e; exact own_binj _ _ r1 r3 (List.cons.inj e).1
    · rcases own_n3 la h1 with rfl | rfl | rfl
      · left; decide
      · left; decide
      · right; rw [own_bs2, own_bs2] at e; exact own_binj _ _ r2 r4 (List.cons.inj (List.cons.inj e).2).1
  · rintro ⟨rfl, q1, q2⟩
    rcases own_n3 la h1 with rfl | rfl | rfl
    · rw [own_bs0, own_bs0]
    · rcases q1 with q1 | rfl
      · exact absurd q1 (by decide)
      · rw [own_bs1, own_bs1]
    · rcases q1 with q1 | rfl
      · exact absurd q1 (by decide)
      · rcases q2 with q2 | rfl
        · exact absurd q2 (by decide)
        · rfl
def own_P (Z : State) (h : Heap) (a : Addr) (x0 : Value) (x1 : Int32) (x2 : Int64) (x3 : Int32) : Prop := Exa Z h a "com/example/useful_few/usefulfew/engine/Post" ∧ Fld Z h a "com/example/useful_few/usefulfew/engine/Post" "collection" "Ljava/lang/String;" x0 ∧ Fld Z h a "com/example/useful_few/usefulfew/engine/Post" "cdf" "I" (.int x1) ∧ Fld Z h a "com/example/useful_few/usefulfew/engine/Post" "ctf" "J" (.long x2) ∧ Fld Z h a "com/example/useful_few/usefulfew/engine/Post" "ctfmax" "I" (.int x3)
set_option maxRecDepth 65536 in
set_option maxHeartbeats 40000000 in
theorem rmC5_2 (l : Launch) (Z : State) (a0 : Array Value) (hw : ∀ d ∈ tables_1, d.before a0 Z = true) (ws : List Jvm.Cond) (o0 o2 : Addr) (k0 k2 : ClassId) (x0 x1 : Int32) (h0 : Heap) (n0 : Nat) (Z0 : n0 ≤ h0.size) (V0 : Arv Z h0 o0 k0 .char (2 : Int32) [(.int x0), (.int x1)] (.int 0)) (V2 : Arv Z h0 o2 k2 .byte (2 : Int32) [(.int (0 : Int32)), (.int (0 : Int32))] (.int 0)) (ne_o0_o2 : o0 ≠ o2) (g0_o2 : n0 ≤ o2) (r0 : 0 ≤ x0.toInt ∧ x0.toInt ≤ 255) (r1 : 0 ≤ x1.toInt ∧ x1.toInt ≤ 255) :
    W.Con l Z (⟨"java/lang/StringUTF16", "compress", "([CI[BII)I"⟩ : MethodName) jdk_52_method_21_code 7 (some .int) ws ({ frames := 0, cells := 0, slots := 0, locals := 0 } : Room) ({ frames := 0, cells := 0, slots := 0, locals := 0 } : Room).cells ({ frames := 0, cells := 0, slots := 0, locals := 0 } : Room).slots #[(.ref o0), (.int (0 : Int32)), (.ref o2), (.int (0 : Int32)), (.int (2 : Int32))] h0 n0 (fun v h => v = some (.int (2 : Int32)) ∧ Keep h0 h [o2] ∧ Arv Z h o2 k2 .byte (2 : Int32) [(.int (nar .byte ((x0).toInt8.toInt32))), (.int (nar .byte ((x1).toInt8.toInt32)))] (.int 0)) := by
  refine W.enter (plainFor_of_name pn_0) Z0 ?_
  intro p e s m below meth c C hnm hsh
  have C : W.Cx p s m meth c Z n0 "java/lang/StringUTF16" jdk_52_method_21_code 7 (some .int) := C
  refine W.Go.castF (ef_14_2 m o0 o2) ?_
  refine W.iconst C (x := (0 : Int32)) d14_0 rfl rfl ?_
  refine W.istore C (Ls' := #[.val (.ref o0), .val (.int (0 : Int32)), .val (.ref o2), .val (.int (0 : Int32)), .val (.int (2 : Int32)), .val (.int (0 : Int32)), .unset]) d14_1 rfl rfl ?_
  refine W.iload C d14_3 rfl rfl ?_
  refine W.iload C d14_5 rfl rfl ?_
  refine W.icmp C (pc' := 44) (pn := 10) d14_7 (by decide) rfl rfl (W.q_ge (0 : Int32) (2 : Int32)) (fun hc7 => ?_) (fun hc7 => ?_)
  · exact absurd hc7 (by decide)
  refine W.aloadN C d14_10 rfl rfl rfl ?_
  refine W.iloadN C d14_11 rfl rfl ?_
  refine W.caload C (v := (.int x0)) V0 (by decide) (by decide) rfl d14_12 rfl ?_
  refine W.istore C (Ls' := #[.val (.ref o0), .val (.int (0 : Int32)), .val (.ref o2), .val (.int (0 : Int32)), .val (.int (2 : Int32)), .val (.int (0 : Int32)), .val (.int x0)]) d14_13 rfl rfl ?_
  refine W.iload C d14_15 rfl rfl ?_
  refine W.sipush C (x := (255 : Int32)) d14_17 rfl rfl ?_
  refine W.icmp C (pc' := 26) (pn := 23) d14_20 (by decide) rfl rfl (W.q_le x0 (255 : Int32)) (fun hc20 => ?_) (fun hc20 => ?_)
  rotate_left
  · exfalso
    simp only [Int32.reduceToInt] at hc20
    omega
  refine W.aloadN C d14_26 rfl rfl rfl ?_
  refine W.iloadN C d14_27 rfl rfl ?_
  refine W.iload C d14_28 rfl rfl ?_
  refine W.i2b C (z := ((x0).toInt8.toInt32)) d14_30 rfl rfl ?_
  refine W.bastore C V2 (by decide) (by decide) (show 0 < 2 from by decide) g0_o2 d14_31 rfl ?_
  intro h1 W1 V1
  have V1 : Arv Z h1 o2 k2 .byte (2 : Int32) [(.int (nar .byte ((x0).toInt8.toInt32))), (.int (0 : Int32))] (.int (0 : Int32)) := V1
  refine W.iinc C (z := (1 : Int32)) (Ls' := #[.val (.ref o0), .val (.int (1 : Int32)), .val (.ref o2), .val (.int (0 : Int32)), .val (.int (2 : Int32)), .val (.int (0 : Int32)), .val (.int x0)]) d14_32 rfl rfl (by decide) rfl ?_
  refine W.iinc C (z := (1 : Int32)) (Ls' := #[.val (.ref o0), .val (.int (1 : Int32)), .val (.ref o2), .val (.int (1 : Int32)), .val (.int (2 : Int32)), .val (.int (0 : Int32)), .val (.int x0)]) d14_35 rfl rfl (by decide) rfl ?_
  refine W.iinc C (z := (1 : Int32)) (Ls' := #[.val (.ref o0), .val (.int (1 : Int32)), .val (.ref o2), .val (.int (1 : Int32)), .val (.int (2 : Int32)), .val (.int (1 : Int32)), .val (.int x0)]) d14_38 rfl rfl (by decide) rfl ?_
  refine W.goto C (pc' := 3) d14_41 (by decide) rfl ?_
  refine W.iload C d14_3 rfl rfl ?_
  refine W.iload C d14_5 rfl rfl ?_
  refine W.icmp C (pc' := 44) (pn := 10) d14_7 (by decide) rfl rfl (W.q_ge (1 : Int32) (2 : Int32)) (fun hc7 => ?_) (fun hc7 => ?_)
  · exact absurd hc7 (by decide)
  refine W.aloadN C d14_10 rfl rfl rfl ?_
  refine W.iloadN C d14_11 rfl rfl ?_
  refine W.caload C (v := (.int x1)) (V0.other W1 ne_o0_o2) (by decide) (by decide) rfl d14_12 rfl ?_
  refine W.istore C (Ls' := #[.val (.ref o0), .val (.int (1 : Int32)), .val (.ref o2), .val (.int (1 : Int32)), .val (.int (2 : Int32)), .val (.int (1 : Int32)), .val (.int x1)]) d14_13 rfl rfl ?_
  refine W.iload C d14_15 rfl rfl ?_
  refine W.sipush C (x := (255 : Int32)) d14_17 rfl rfl ?_
  refine W.icmp C (pc' := 26) (pn := 23) d14_20 (by decide) rfl rfl (W.q_le x1 (255 : Int32)) (fun hc20 => ?_) (fun hc20 => ?_)
  rotate_left
  · exfalso
    simp only [Int32.reduceToInt] at hc20
    omega
  refine W.aloadN C d14_26 rfl rfl rfl ?_
  refine W.iloadN C d14_27 rfl rfl ?_
  refine W.iload C d14_28 rfl rfl ?_
  refine W.i2b C (z := ((x1).toInt8.toInt32)) d14_30 rfl rfl ?_
  refine W.bastore C V1 (by decide) (by decide) (show 1 < 2 from by decide) g0_o2 d14_31 rfl ?_
  intro h2 W2 V2
  have V2 : Arv Z h2 o2 k2 .byte (2 : Int32) [(.int (nar .byte ((x0).toInt8.toInt32))), (.int (nar .byte ((x1).toInt8.toInt32)))] (.int (0 : Int32)) := V2
  refine W.iinc C (z := (2 : Int32)) (Ls' := #[.val (.ref o0), .val (.int (2 : Int32)), .val (.ref o2), .val (.int (1 : Int32)), .val (.int (2 : Int32)), .val (.int (1 : Int32)), .val (.int x1)]) d14_32 rfl rfl (by decide) rfl ?_
  refine W.iinc C (z := (2 : Int32)) (Ls' := #[.val (.ref o0), .val (.int (2 : Int32)), .val (.ref o2), .val (.int (2 : Int32)), .val (.int (2 : Int32)), .val (.int (1 : Int32)), .val (.int x1)]) d14_35 rfl rfl (by decide) rfl ?_
  refine W.iinc C (z := (2 : Int32)) (Ls' := #[.val (.ref o0), .val (.int (2 : Int32)), .val (.ref o2), .val (.int (2 : Int32)), .val (.int (2 : Int32)), .val (.int (2 : Int32)), .val (.int x1)]) d14_38 rfl rfl (by decide) rfl ?_
  refine W.goto C (pc' := 3) d14_41 (by decide) rfl ?_
  refine W.iload C d14_3 rfl rfl ?_
  refine W.iload C d14_5 rfl rfl ?_
  refine W.icmp C (pc' := 44) (pn := 10) d14_7 (by decide) rfl rfl (W.q_ge (2 : Int32) (2 : Int32)) (fun hc7 => ?_) (fun hc7 => ?_)
  rotate_left
  · exact absurd hc7 (by decide)
  refine W.iload C d14_44 rfl rfl ?_
  refine W.retI C d14_46 (by decide) (by decide) (fun _ _ _ _ q => q) ?_
  exact ⟨rfl, (((Keep.refl h0 [o2]).wr W1 (Or.inl (List.mem_of_getElem? (i := 0) rfl))).wr W2 (Or.inl (List.mem_of_getElem? (i := 0) rfl))), V2⟩
set_option maxRecDepth 65536 in
set_option maxHeartbeats 40000000 in
theorem rmC3_2 (l : Launch) (Z : State) (a0 : Array Value) (hw : ∀ d ∈ tables_1, d.before a0 Z = true) (ws : List Jvm.Cond) (o0 : Addr) (k0 : ClassId) (x0 x1 : Int32) (h0 : Heap) (n0 : Nat) (Z0 : n0 ≤ h0.size) (V0 : Arv Z h0 o0 k0 .char (2 : Int32) [(.int x0), (.int x1)] (.int 0)) (r0 : 0 ≤ x0.toInt ∧ x0.toInt ≤ 255) (r1 : 0 ≤ x1.toInt ∧ x1.toInt ≤ 255) :
    W.Con l Z (⟨"java/lang/StringUTF16", "compress", "([CII)[B"⟩ : MethodName) jdk_52_method_16_code 6 (some (.array .byte)) ws ({ frames := 1, cells := 1, slots := 2, locals := 18 } : Room) ({ frames := 1, cells := 1, slots := 2, locals := 18 } : Room).cells ({ frames := 1, cells := 1, slots := 2, locals := 18 } : Room).slots #[(.ref o0), (.int (0 : Int32)), (.int (2 : Int32))] h0 n0 (fun v h => ∃ (r : Addr) (kr : ClassId), v = some (.ref r) ∧ n0 ≤ r ∧ h0.size ≤ r ∧ Keep h0 h [] ∧ Arv Z h r kr .byte (2 : Int32) [(.int (nar .byte ((x0).toInt8.toInt32))), (.int (nar .byte ((x1).toInt8.toInt32)))] (.int 0)) := by
  refine W.enter (plainFor_of_name pn_0) Z0 ?_
  intro p e s m below meth c C hnm hsh
  have C : W.Cx p s m meth c Z n0 "java/lang/StringUTF16" jdk_52_method_16_code 6 (some (.array .byte)) := C
  refine W.Go.castF (ef_13_2 m o0) ?_
  refine W.iloadN C d13_0 rfl rfl ?_
  refine W.newarray C (cap := 2) (hw _ (List.mem_of_getElem? (i := 19) rfl)) d13_1 rfl (by decide) (by decide) (by decide) (by decide) (by decide) (k' := 1) (n' := 2) rfl rfl ?_
  intro h1 b1 kc_b1 gb1 g0_b1 E1 Vb1
  have sz_b1 : h0.size ≤ b1 := by rw [gb1]; exact (Keep.refl h0 []).1
  have ne_o0_b1 : o0 ≠ b1 := Nat.ne_of_lt (by rw [gb1]; exact V0.lt)
  have Vb1 : Arv Z h1 b1 kc_b1 .byte (2 : Int32) [(.int (0 : Int32)), (.int (0 : Int32))] (.int (0 : Int32)) := Vb1.pad (pad_rep [] (.int (0 : Int32)) 2)
  refine W.astoreN C (Ls' := #[.val (.ref o0), .val (.int (0 : Int32)), .val (.int (2 : Int32)), .val (.ref b1), .unset, .unset]) d13_3 rfl rfl rfl ?_
  refine W.aloadN C d13_4 rfl rfl rfl ?_
  refine W.iloadN C d13_5 rfl rfl ?_
  refine W.aloadN C d13_6 rfl rfl rfl ?_
  refine W.iconst C (x := (0 : Int32)) d13_7 rfl rfl ?_
  refine W.iloadN C d13_8 rfl rfl ?_
  refine W.callS C (y := (⟨"java/lang/StringUTF16", "compress", "([CI[BII)I"⟩ : MethodName)) (hw _ (List.mem_of_getElem? (i := 77) rfl)) (hw _ (List.mem_of_getElem? (i := 78) rfl)) (hw _ (List.mem_of_getElem? (i := 75) rfl)) (hw _ (List.mem_of_getElem? (i := 79) rfl)) (by decide) (fun hz => rmC5_2 l Z a0 hw [] o0 b1 k0 kc_b1 x0 x1 h1 n0 hz (V0.ext E1) Vb1 ne_o0_b1 g0_b1 r0 r1) d13_9 rfl rfl pd_0 rfl (argsL := [(.ref o0), (.int (0 : Int32)), (.ref b1), (.int (0 : Int32)), (.int (2 : Int32))]) (rest := []) rfl (W := 0) rfl (by decide) (by decide) (by decide) (by decide) (k' := 1) (n' := 2) rfl rfl ?_
  rintro h2 _ ⟨rfl, K2, V2⟩
  show W.Go p l e _ _ m _ below meth c _ _ _ _ _ _ (mkF m 12 #[.val (.ref o0), .val (.int (0 : Int32)), .val (.int (2 : Int32)), .val (.ref b1), .unset, .unset] [(.int (2 : Int32))])
  refine W.istore C (Ls' := #[.val (.ref o0), .val (.int (0 : Int32)), .val (.int (2 : Int32)), .val (.ref b1), .val (.int (2 : Int32)), .unset]) d13_12 rfl rfl ?_
  refine W.iload C d13_14 rfl rfl ?_
  refine W.iloadN C d13_16 rfl rfl ?_
  refine W.icmp C (pc' := 57) (pn := 20) d13_17 (by decide) rfl rfl (W.q_eq (2 : Int32) (2 : Int32)) (fun hc17 => ?_) (fun hc17 => ?_)
  rotate_left
  · exact absurd rfl hc17
  refine W.aloadN C d13_57 rfl rfl rfl ?_
  refine W.retA C rfl rfl rfl d13_58 (by decide) (by decide) (fun _ _ _ _ q => q) ?_
  exact ⟨b1, kc_b1, rfl, g0_b1, sz_b1, (((Keep.refl h0 []).ext E1).trans K2 (allS (Or.inr sz_b1) all0)), V2⟩
set_option maxRecDepth 65536 in
set_option maxHeartbeats 40000000 in
theorem rmCl_2 (l : Launch) (Z : State) (a0 : Array Value) (hw : ∀ d ∈ tables_1, d.before a0 Z = true) (ws : List Jvm.Cond) (o0 : Addr) (k0 : ClassId) (vs : List Value) (h0 : Heap) (n0 : Nat) (Z0 : n0 ≤ h0.size) (V0 : Arv Z h0 o0 k0 .byte (2 : Int32) vs (.int 0)) :
    W.Con l Z (⟨"java/lang/StringUTF16", "coderFromArrayLen", "([BI)B"⟩ : MethodName) jdk_52_method_15_code 2 (some .byte) ws ({ frames := 0, cells := 0, slots := 0, locals := 0 } : Room) ({ frames := 0, cells := 0, slots := 0, locals := 0 } : Room).cells ({ frames := 0, cells := 0, slots := 0, locals := 0 } : Room).slots #[(.ref o0), (.int (2 : Int32))] h0 n0 (fun v h => v = some (.int 0) ∧ h0 = h) := by
  refine W.enter (plainFor_of_name pn_0) Z0 ?_
  intro p e s m below meth c C hnm hsh
  have C : W.Cx p s m meth c Z n0 "java/lang/StringUTF16" jdk_52_method_15_code 2 (some .byte) := C
  refine W.Go.castF (ef_15_2 m o0) ?_
  refine W.iloadN C d15_0 rfl rfl ?_
  refine W.aloadN C d15_1 rfl rfl rfl ?_
  refine W.arraylength C V0 d15_2 rfl ?_
  refine W.isub C (z := (0 : Int32)) d15_3 rfl (by decide) ?_
  refine W.bipush C (x := (31 : Int32)) d15_4 rfl rfl ?_
  refine W.iushr C (z := (0 : Int32)) d15_6 rfl (by decide) ?_
  refine W.i2b C (z := (0 : Int32)) d15_7 rfl (by decide) ?_
  refine W.retZ C (w := (0 : Int32)) (by simp) d15_8 (by decide) (by decide) (by decide) (fun _ _ _ _ q => q) ?_
  exact ⟨rfl, rfl⟩
set_option maxRecDepth 65536 in
set_option maxHeartbeats 40000000 in
theorem rmI4_2 (l : Launch) (Z : State) (a0 : Array Value) (hw : ∀ d ∈ tables_1, d.before a0 Z = true) (ws : List Jvm.Cond) (o0 o1 : Addr) (k1 : ClassId) (cs : Int32) (x0 x1 : Int32) (h0 : Heap) (n0 : Nat) (Z0 : n0 ≤ h0.size) (E0 : Exa Z h0 o0 "java/lang/String") (F1 : Fld Z h0 o0 "java/lang/String" "value" "[B" .null) (F2 : Fld Z h0 o0 "java/lang/String" "coder" "B" (.int (0 : Int32))) (g0_o0 : n0 ≤ o0) (V1 : Arv Z h0 o1 k1 .char (2 : Int32) [(.int x0), (.int x1)] (.int 0)) (ne_o1_o0 : o1 ≠ o0) (SC : Sta Z h0 "java/lang/String" "COMPACT_STRINGS" "Z" (.int cs)) (hcs : ¬ cs = 0) (r0 : 0 ≤ x0.toInt ∧ x0.toInt ≤ 255) (r1 : 0 ≤ x1.toInt ∧ x1.toInt ≤ 255) :
    W.Con l Z (⟨"java/lang/String", "<init>", "([CIILjava/lang/Void;)V"⟩ : MethodName) jdk_42_method_149_code 6 none ws ({ frames := 2, cells := 1, slots := 2, locals := 35 } : Room) ({ frames := 2, cells := 1, slots := 2, locals := 35 } : Room).cells ({ frames := 2, cells := 1, slots := 2, locals := 35 } : Room).slots #[(.ref o0), (.ref o1), (.int (0 : Int32)), (.int (2 : Int32)), .null] h0 n0 (fun v h => v = none ∧ ∃ (b : Addr) (kb : ClassId), Keep h0 h [o0] ∧ h0.size ≤ b ∧ own_Str Z h o0 b kb (2 : Int32) [(.int (nar .byte ((x0).toInt8.toInt32))), (.int (nar .byte ((x1).toInt8.toInt32)))]) := by
  refine W.enter (plainFor_of_name pn_1) Z0 ?_
  intro p e s m below meth c C hnm hsh
  have C : W.Cx p s m meth c Z n0 "java/lang/String" jdk_42_method_149_code 6 none := C
  refine W.Go.castF (ef_3_2 m o0 o1) ?_
  refine W.aloadN C d3_0 rfl rfl rfl ?_
  refine W.initObj C (hw _ (List.mem_of_getElem? (i := 15) rfl)) (hw _ (List.mem_of_getElem? (i := 16) rfl)) (hw _ (List.mem_of_getElem? (i := 17) rfl)) d3_1 rfl rfl (by decide) rfl (by decide) ?_
  refine W.iloadN C d3_4 rfl rfl ?_
  refine W.ifc C (pc' := 27) (pn := 8) d3_5 (by decide) rfl rfl (W.q_ne (2 : Int32) (0 : Int32)) (fun hc5 => ?_) (fun hc5 => ?_)
  rotate_left
  · exact absurd hc5 (by decide)
  refine W.getstatic C (hw _ (List.mem_of_getElem? (i := 54) rfl)) Via.refl SC d3_27 rfl ?_
  refine W.ifc C (pc' := 58) (pn := 33) d3_30 (by decide) rfl rfl (W.q_eq cs (0 : Int32)) (fun hc30 => ?_) (fun hc30 => ?_)
  · exfalso
    exact hcs hc30
  refine W.aloadN C d3_33 rfl rfl rfl ?_
  refine W.iloadN C d3_34 rfl rfl ?_
  refine W.iloadN C d3_35 rfl rfl ?_
  refine W.callS C (y := (⟨"java/lang/StringUTF16", "compress", "([CII)[B"⟩ : MethodName)) (hw _ (List.mem_of_getElem? (i := 73) rfl)) (hw _ (List.mem_of_getElem? (i := 74) rfl)) (hw _ (List.mem_of_getElem? (i := 75) rfl)) (hw _ (List.mem_of_getElem? (i := 76) rfl)) (by decide) (fun hz => rmC3_2 l Z a0 hw [] o1 k1 x0 x1 h0 n0 hz V1 r0 r1) d3_36 rfl rfl pd_1 rfl (argsL := [(.ref o1), (.int (0 : Int32)), (.int (2 : Int32))]) (rest := []) rfl (W := 0) rfl (by decide) (by decide) (by decide) (by decide) (k' := 1) (n' := 2) rfl rfl ?_
  rintro hc _ ⟨r, kr, rfl, g0_r, sz_r, Kr, Vr⟩
  have ne_o0_r : o0 ≠ r := Nat.ne_of_lt (Nat.lt_of_lt_of_le E0.lt sz_r)
  have ne_o1_r : o1 ≠ r := Nat.ne_of_lt (Nat.lt_of_lt_of_le V1.lt sz_r)
  have sz_r := Nat.le_trans (Keep.refl h0 [o0]).1 sz_r
  show W.Go p l e _ _ m _ below meth c _ _ _ _ _ _ (mkF m 39 #[.val (.ref o0), .val (.ref o1), .val (.int (0 : Int32)), .val (.int (2 : Int32)), .val .null, .unset] [(.ref r)])
  refine W.astore C (Ls' := #[.val (.ref o0), .val (.ref o1), .val (.int (0 : Int32)), .val (.int (2 : Int32)), .val .null, .val (.ref r)]) d3_39 rfl rfl rfl ?_
  refine W.aloadN C d3_41 rfl rfl rfl ?_
  refine W.aload C d3_42 rfl rfl rfl ?_
  refine W.iloadN C d3_44 rfl rfl ?_
  refine W.callS C (y := (⟨"java/lang/StringUTF16", "coderFromArrayLen", "([BI)B"⟩ : MethodName)) (hw _ (List.mem_of_getElem? (i := 80) rfl)) (hw _ (List.mem_of_getElem? (i := 81) rfl)) (hw _ (List.mem_of_getElem? (i := 75) rfl)) (hw _ (List.mem_of_getElem? (i := 82) rfl)) (by decide) (fun hz => rmCl_2 l Z a0 hw [] r kr [(.int (nar .byte ((x0).toInt8.toInt32))), (.int (nar .byte ((x1).toInt8.toInt32)))] hc n0 hz Vr) d3_45 rfl rfl pd_2 rfl (argsL := [(.ref r), (.int (2 : Int32))]) (rest := [(.ref o0)]) rfl (W := 1) rfl (by decide) (by decide) (by decide) (by decide) (k' := 1) (n' := 2) rfl rfl ?_
  rintro h1 _ ⟨rfl, rfl⟩
  show W.Go p l e _ _ m _ below meth c _ _ _ _ _ _ (mkF m 48 #[.val (.ref o0), .val (.ref o1), .val (.int (0 : Int32)), .val (.int (2 : Int32)), .val .null, .val (.ref r)] [(.int (0 : Int32)), (.ref o0)])
  refine W.putfield C (hw _ (List.mem_of_getElem? (i := 25) rfl)) Via.refl (F2.keep Kr nin0) (E0.keep Kr) (Or.inr ⟨(hw _ (List.mem_of_getElem? (i := 21) rfl)), rfl, hnm⟩) (hw _ (List.mem_of_getElem? (i := 5) rfl)) (ty := .byte) (by decide) rfl rfl d3_48 rfl g0_o0 ?_
  intro h2 W2
  refine W.aloadN C d3_51 rfl rfl rfl ?_
  refine W.aload C d3_52 rfl rfl rfl ?_
  refine W.putfield C (hw _ (List.mem_of_getElem? (i := 24) rfl)) Via.refl ((F1.keep Kr nin0).other W2 (Or.inr (slot_ne (Or.inr (hw _ (List.mem_of_getElem? (i := 20) rfl))) (Or.inr (hw _ (List.mem_of_getElem? (i := 21) rfl))) (by decide) (t := (.array .byte)) (t' := .byte) (by decide) (by decide)))) ((E0.keep Kr).wr W2) (Or.inr ⟨(hw _ (List.mem_of_getElem? (i := 20) rfl)), rfl, hnm⟩) (hw _ (List.mem_of_getElem? (i := 5) rfl)) (ty := (.array .byte)) (by decide) rfl rfl d3_54 rfl g0_o0 ?_
  intro h3 W3
  refine W.ret0 C d3_57 (by decide) (by decide) (fun _ _ _ _ q => q) ?_
  exact ⟨rfl, r, kr, ((((Keep.refl h0 [o0]).trans Kr all0).wr W2 (Or.inl (List.mem_of_getElem? (i := 0) rfl))).wr W3 (Or.inl (List.mem_of_getElem? (i := 0) rfl))), sz_r, ⟨(((E0.keep Kr).wr W2).wr W3), (((F2.keep Kr nin0).same W2).other W3 (Or.inr (slot_ne (Or.inr (hw _ (List.mem_of_getElem? (i := 21) rfl))) (Or.inr (hw _ (List.mem_of_getElem? (i := 20) rfl))) (by decide) (t := .byte) (t' := (.array .byte)) (by decide) (by decide)))), (((F1.keep Kr nin0).other W2 (Or.inr (slot_ne (Or.inr (hw _ (List.mem_of_getElem? (i := 20) rfl))) (Or.inr (hw _ (List.mem_of_getElem? (i := 21) rfl))) (by decide) (t := (.array .byte)) (t' := .byte) (by decide) (by decide)))).same W3), ((Vr.other W2 (Ne.symm ne_o0_r)).other W3 (Ne.symm ne_o0_r))⟩⟩
set_option maxRecDepth 65536 in
set_option maxHeartbeats 40000000 in
theorem rmI1_2 (l : Launch) (Z : State) (a0 : Array Value) (hw : ∀ d ∈ tables_1, d.before a0 Z = true) (ws : List Jvm.Cond) (o0 o1 : Addr) (k1 : ClassId) (cs : Int32) (x0 x1 : Int32) (h0 : Heap) (n0 : Nat) (Z0 : n0 ≤ h0.size) (E0 : Exa Z h0 o0 "java/lang/String") (F1 : Fld Z h0 o0 "java/lang/String" "value" "[B" .null) (F2 : Fld Z h0 o0 "java/lang/String" "coder" "B" (.int (0 : Int32))) (g0_o0 : n0 ≤ o0) (V1 : Arv Z h0 o1 k1 .char (2 : Int32) [(.int x0), (.int x1)] (.int 0)) (ne_o1_o0 : o1 ≠ o0) (SC : Sta Z h0 "java/lang/String" "COMPACT_STRINGS" "Z" (.int cs)) (hcs : ¬ cs = 0) (r0 : 0 ≤ x0.toInt ∧ x0.toInt ≤ 255) (r1 : 0 ≤ x1.toInt ∧ x1.toInt ≤ 255) :
    W.Con l Z (⟨"java/lang/String", "<init>", "([C)V"⟩ : MethodName) jdk_42_method_3_code 2 none ws ({ frames := 3, cells := 1, slots := 2, locals := 52 } : Room) ({ frames := 3, cells := 1, slots := 2, locals := 52 } : Room).cells ({ frames := 3, cells := 1, slots := 2, locals := 52 } : Room).slots #[(.ref o0), (.ref o1)] h0 n0 (fun v h => v = none ∧ ∃ (b : Addr) (kb : ClassId), Keep h0 h [o0] ∧ h0.size ≤ b ∧ own_Str Z h o0 b kb (2 : Int32) [(.int (nar .byte ((x0).toInt8.toInt32))), (.int (nar .byte ((x1).toInt8.toInt32)))]) := by
  refine W.enter (plainFor_of_name pn_1) Z0 ?_
  intro p e s m below meth c C hnm hsh
  have C : W.Cx p s m meth c Z n0 "java/lang/String" jdk_42_method_3_code 2 none := C
  refine W.Go.castF (ef_2_2 m o0 o1) ?_
  refine W.aloadN C d2_0 rfl rfl rfl ?_
  refine W.aloadN C d2_1 rfl rfl rfl ?_
  refine W.iconst C (x := (0 : Int32)) d2_2 rfl rfl ?_
  refine W.aloadN C d2_3 rfl rfl rfl ?_
  refine W.arraylength C V1 d2_4 rfl ?_
  refine W.aconst_null C d2_5 rfl ?_
  refine W.callSp C (y := (⟨"java/lang/String", "<init>", "([CIILjava/lang/Void;)V"⟩ : MethodName)) (a := o0) rfl (hw _ (List.mem_of_getElem? (i := 11) rfl)) (hw _ (List.mem_of_getElem? (i := 12) rfl)) (hw _ (List.mem_of_getElem? (i := 6) rfl)) (hw _ (List.mem_of_getElem? (i := 14) rfl)) (by decide) (fun hz => rmI4_2 l Z a0 hw [] o0 o1 k1 cs x0 x1 h0 n0 hz E0 F1 F2 g0_o0 V1 ne_o1_o0 SC hcs r0 r1) d2_6 rfl rfl pd_3 rfl (argsL := [(.ref o1), (.int (0 : Int32)), (.int (2 : Int32)), .null]) (rest := []) rfl (W := 0) rfl (by decide) (by decide) (by decide) (by decide) (k' := 1) (n' := 2) rfl rfl ?_
  rintro h1 _ ⟨rfl, b1, kb1, K1, sz_b1, O1⟩
  have ne_o0_b1 : o0 ≠ b1 := Nat.ne_of_lt (Nat.lt_of_lt_of_le E0.lt sz_b1)
  have ne_o1_b1 : o1 ≠ b1 := Nat.ne_of_lt (Nat.lt_of_lt_of_le V1.lt sz_b1)
  have sz_b1 := Nat.le_trans (Keep.refl h0 [o0]).1 sz_b1
  show W.Go p l e _ _ m _ below meth c _ _ _ _ _ _ (mkF m 9 #[.val (.ref o0), .val (.ref o1)] [])
  refine W.ret0 C d2_9 (by decide) (by decide) (fun _ _ _ _ q => q) ?_
  exact ⟨rfl, b1, kb1, ((Keep.refl h0 [o0]).trans K1 (allS (Or.inl (List.mem_of_getElem? (i := 0) rfl)) all0)), sz_b1, ⟨O1.1, O1.2.1, O1.2.2.1, O1.2.2.2⟩⟩
set_option maxRecDepth 65536 in
set_option maxHeartbeats 40000000 in
theorem rmI4_0 (l : Launch) (Z : State) (a0 : Array Value) (hw : ∀ d ∈ tables_1, d.before a0 Z = true) (hEL : EW Z a0 consts_1) (hSA : ∀ a ∈ Bundle.stringAtoms, a.before a0 Z = true) (ws : List Jvm.Cond) (o0 o1 : Addr) (h0 : Heap) (n0 : Nat) (Z0 : n0 ≤ h0.size) (E0 : Exa Z h0 o0 "java/lang/String") (F1 : Fld Z h0 o0 "java/lang/String" "value" "[B" .null) (F2 : Fld Z h0 o0 "java/lang/String" "coder" "B" (.int (0 : Int32))) (g0_o0 : n0 ≤ o0) :
    W.ConL l Z consts_1 (⟨"java/lang/String", "<init>", "([CIILjava/lang/Void;)V"⟩ : MethodName) jdk_42_method_149_code 6 none ws ({ frames := 1, cells := 4, slots := 8, locals := 12 } : Room) ({ frames := 1, cells := 4, slots := 8, locals := 12 } : Room).cells ({ frames := 1, cells := 4, slots := 8, locals := 12 } : Room).slots #[(.ref o0), (.ref o1), (.int (0 : Int32)), (.int (0 : Int32)), .null] h0 n0 [o0] (fun v h => v = none ∧ ∃ (b : Addr) (kb : ClassId), Keep h0 h [o0] ∧ own_Str Z h o0 b kb 0 []) := by
  refine W.enterL (plainFor_of_name pn_1) Z0 hEL hSA ?_
  intro p e s0 m below meth c C hnm hsh LT SF0
  have C : W.Cx p (s0.setVm s0.vm) m meth c Z n0 "java/lang/String" jdk_42_method_149_code 6 none := C
  have sf_o0 := SF0 o0 (List.mem_of_getElem? (i := 0) rfl)
  refine W.Go.castF (ef_3_0 m o0 o1) ?_
  refine W.aloadN C d3_0 rfl rfl rfl ?_
  refine W.initObj C (hw _ (List.mem_of_getElem? (i := 15) rfl)) (hw _ (List.mem_of_getElem? (i := 16) rfl)) (hw _ (List.mem_of_getElem? (i := 17) rfl)) d3_1 rfl rfl (by decide) rfl (by decide) ?_
  refine W.iloadN C d3_4 rfl rfl ?_
  refine W.ifc C (pc' := 27) (pn := 8) d3_5 (by decide) rfl rfl (W.q_ne (0 : Int32) (0 : Int32)) (fun hc5 => ?_) (fun hc5 => ?_)
  · exact absurd rfl hc5
  refine W.aloadN C d3_8 rfl rfl rfl ?_
  refine W.ldcL C (vs := []) (z := (0 : Int32)) (nn := 0) LT (hw _ (List.mem_of_getElem? (i := 18) rfl)) (List.mem_of_getElem? (i := 0) rfl) tx_0 (by decide) (by decide) d3_9 rfl txl_0 (by decide) (by decide) (by decide) (k' := 2) (n' := 4) rfl rfl ?_
  intro vm1 k1 h1 a1 b1 kc_b1 C LT1 E1 X1 Fc1 Fv1 V1 SF1 NE1
  have sf1_o0 := SF1 o0 E0.lt sf_o0
  obtain ⟨ne_o0_a1, ne_o0_b1⟩ := NE1 _ sf1_o0
  refine W.getfield C (hw _ (List.mem_of_getElem? (i := 24) rfl)) Via.refl Fv1 d3_11 rfl ?_
  refine W.putfield C (hw _ (List.mem_of_getElem? (i := 24) rfl)) Via.refl (F1.ext E1) (E0.ext E1) (Or.inr ⟨(hw _ (List.mem_of_getElem? (i := 20) rfl)), rfl, hnm⟩) (hw _ (List.mem_of_getElem? (i := 5) rfl)) (ty := (.array .byte)) (by decide) rfl rfl d3_14 rfl g0_o0 ?_
  intro h2 W2
  have lw3 := LT1.wr W2 sf1_o0
  have sw4 := LT1.swr W2 sf1_o0 sf1_o0
  refine W.aloadN C d3_17 rfl rfl rfl ?_
  refine W.ldcL C (vs := []) (z := (0 : Int32)) (nn := 0) lw3 (hw _ (List.mem_of_getElem? (i := 18) rfl)) (List.mem_of_getElem? (i := 0) rfl) tx_0 (by decide) (by decide) d3_18 rfl txl_0 (by decide) (by decide) (by decide) (k' := 4) (n' := 8) rfl rfl ?_
  intro vm5 k5 h5 a5 b5 kc_b5 C LT5 E5 X5 Fc5 Fv5 V5 SF5 NE5
  have sf5_o0 := SF5 o0 ((E0.ext E1).wr W2).lt sw4
  obtain ⟨ne_o0_a5, ne_o0_b5⟩ := NE5 _ sf5_o0
  refine W.getfield C (hw _ (List.mem_of_getElem? (i := 25) rfl)) Via.refl Fc5 d3_20 rfl ?_
  refine W.putfield C (hw _ (List.mem_of_getElem? (i := 25) rfl)) Via.refl (((F2.ext E1).other W2 (Or.inr (slot_ne (Or.inr (hw _ (List.mem_of_getElem? (i := 21) rfl))) (Or.inr (hw _ (List.mem_of_getElem? (i := 20) rfl))) (by decide) (t := .byte) (t' := (.array .byte)) (by decide) (by decide)))).ext E5) (((E0.ext E1).wr W2).ext E5) (Or.inr ⟨(hw _ (List.mem_of_getElem? (i := 21) rfl)), rfl, hnm⟩) (hw _ (List.mem_of_getElem? (i := 5) rfl)) (ty := .byte) (by decide) rfl rfl d3_23 rfl g0_o0 ?_
  intro h6 W6
  have lw7 := LT5.wr W6 sf5_o0
  have sw8 := LT5.swr W6 sf5_o0 sf5_o0
  refine W.ret0 C d3_26 (by decide) (by decide) (W.Lt.fin lw7) ?_
  exact ⟨rfl, b1, kc_b1, (((((Keep.refl h0 [o0]).ext E1).wr W2 (Or.inl (List.mem_of_getElem? (i := 0) rfl))).ext E5).wr W6 (Or.inl (List.mem_of_getElem? (i := 0) rfl))), ⟨((((E0.ext E1).wr W2).ext E5).wr W6), ((((F2.ext E1).other W2 (Or.inr (slot_ne (Or.inr (hw _ (List.mem_of_getElem? (i := 21) rfl))) (Or.inr (hw _ (List.mem_of_getElem? (i := 20) rfl))) (by decide) (t := .byte) (t' := (.array .byte)) (by decide) (by decide)))).ext E5).same W6), ((((F1.ext E1).same W2).ext E5).other W6 (Or.inr (slot_ne (Or.inr (hw _ (List.mem_of_getElem? (i := 20) rfl))) (Or.inr (hw _ (List.mem_of_getElem? (i := 21) rfl))) (by decide) (t := (.array .byte)) (t' := .byte) (by decide) (by decide)))), (((V1.other W2 (Ne.symm ne_o0_b1)).ext E5).other W6 (Ne.symm ne_o0_b1))⟩⟩
set_option maxRecDepth 65536 in
set_option maxHeartbeats 40000000 in
theorem rmI1_0 (l : Launch) (Z : State) (a0 : Array Value) (hw : ∀ d ∈ tables_1, d.before a0 Z = true) (hEL : EW Z a0 consts_1) (hSA : ∀ a ∈ Bundle.stringAtoms, a.before a0 Z = true) (ws : List Jvm.Cond) (o0 o1 : Addr) (k1 : ClassId) (h0 : Heap) (n0 : Nat) (Z0 : n0 ≤ h0.size) (E0 : Exa Z h0 o0 "java/lang/String") (F1 : Fld Z h0 o0 "java/lang/String" "value" "[B" .null) (F2 : Fld Z h0 o0 "java/lang/String" "coder" "B" (.int (0 : Int32))) (g0_o0 : n0 ≤ o0) (V1 : Arv Z h0 o1 k1 .char (0 : Int32) [] (.int 0)) :
    W.ConL l Z consts_1 (⟨"java/lang/String", "<init>", "([C)V"⟩ : MethodName) jdk_42_method_3_code 2 none ws ({ frames := 2, cells := 4, slots := 8, locals := 29 } : Room) ({ frames := 2, cells := 4, slots := 8, locals := 29 } : Room).cells ({ frames := 2, cells := 4, slots := 8, locals := 29 } : Room).slots #[(.ref o0), (.ref o1)] h0 n0 [o0] (fun v h => v = none ∧ ∃ (b : Addr) (kb : ClassId), Keep h0 h [o0] ∧ own_Str Z h o0 b kb 0 []) := by
  refine W.enterL (plainFor_of_name pn_1) Z0 hEL hSA ?_
  intro p e s0 m below meth c C hnm hsh LT SF0
  have C : W.Cx p (s0.setVm s0.vm) m meth c Z n0 "java/lang/String" jdk_42_method_3_code 2 none := C
  have sf_o0 := SF0 o0 (List.mem_of_getElem? (i := 0) rfl)
  refine W.Go.castF (ef_2_0 m o0 o1) ?_
  refine W.aloadN C d2_0 rfl rfl rfl ?_
  refine W.aloadN C d2_1 rfl rfl rfl ?_
  refine W.iconst C (x := (0 : Int32)) d2_2 rfl rfl ?_
  refine W.aloadN C d2_3 rfl rfl rfl ?_
  refine W.arraylength C V1 d2_4 rfl ?_
  refine W.aconst_null C d2_5 rfl ?_
  refine W.callSpL C (y := (⟨"java/lang/String", "<init>", "([CIILjava/lang/Void;)V"⟩ : MethodName)) (b := o0) LT rfl (hw _ (List.mem_of_getElem? (i := 11) rfl)) (hw _ (List.mem_of_getElem? (i := 12) rfl)) (hw _ (List.mem_of_getElem? (i := 6) rfl)) (hw _ (List.mem_of_getElem? (i := 14) rfl)) (by decide) (fun hz => rmI4_0 l Z a0 hw hEL hSA [] o0 o1 h0 n0 hz E0 F1 F2 g0_o0) (fun x hx => by simp only [List.mem_cons, List.not_mem_nil, or_false] at hx; rcases hx with rfl; exact ⟨E0.lt, sf_o0⟩) d2_6 rfl rfl pd_3 rfl (argsL := [(.ref o1), (.int (0 : Int32)), (.int (0 : Int32)), .null]) (rest := []) rfl (W := 0) rfl (by decide) (by decide) (by decide) (by decide) (k' := 4) (n' := 8) rfl rfl ?_
  rintro vm1 k1 h1 _ C LT1 SF1 ⟨rfl, b1, kb1, K1, O1⟩
  have sc1_o0 := SF1 o0 E0.lt sf_o0
  show W.Go p l e _ _ m _ below meth c _ _ _ _ _ _ (mkF m 9 #[.val (.ref o0), .val (.ref o1)] [])
  refine W.ret0 C d2_9 (by decide) (by decide) (W.Lt.fin LT1) ?_
  exact ⟨rfl, b1, kb1, ((Keep.refl h0 [o0]).trans K1 (allS (Or.inl (List.mem_of_getElem? (i := 0) rfl)) all0)), ⟨O1.1, O1.2.1, O1.2.2.1, O1.2.2.2⟩⟩
set_option maxRecDepth 65536 in
set_option maxHeartbeats 40000000 in
theorem rmVc (l : Launch) (Z : State) (a0 : Array Value) (hw : ∀ d ∈ tables_1, d.before a0 Z = true) (ws : List Jvm.Cond) (p0 : Int32) (h0 : Heap) (n0 : Nat) (Z0 : n0 ≤ h0.size) (r0 : 0 ≤ p0.toInt ∧ p0.toInt ≤ 255) :
    W.Con l Z (⟨"java/lang/StringLatin1", "canEncode", "(C)Z"⟩ : MethodName) jdk_43_method_3_code 1 (some .boolean) ws ({ frames := 0, cells := 0, slots := 0, locals := 0 } : Room) ({ frames := 0, cells := 0, slots := 0, locals := 0 } : Room).cells ({ frames := 0, cells := 0, slots := 0, locals := 0 } : Room).slots #[(.int p0)] h0 n0 (fun v h => v = some (.int 1) ∧ h0 = h) := by
  refine W.enter (plainFor_of_name pn_2) Z0 ?_
  intro p e s m below meth c C hnm hsh
  have C : W.Cx p s m meth c Z n0 "java/lang/StringLatin1" jdk_43_method_3_code 1 (some .boolean) := C
  refine W.Go.castF (ef_10v m p0) ?_
  refine W.iloadN C d10_0 rfl rfl ?_
  refine W.sipush C (x := (255 : Int32)) d10_1 rfl rfl ?_
  refine W.icmp C (pc' := 11) (pn := 7) d10_4 (by decide) rfl rfl (W.q_gt p0 (255 : Int32)) (fun hc4 => ?_) (fun hc4 => ?_)
  · exfalso
    simp only [Int32.reduceToInt] at hc4
    omega
  refine W.iconst C (x := (1 : Int32)) d10_7 rfl rfl ?_
  refine W.goto C (pc' := 12) d10_8 (by decide) rfl ?_
  refine W.retZ C (w := (1 : Int32)) (by simp) d10_12 (by decide) (by decide) (by decide) (fun _ _ _ _ q => q) ?_
  exact ⟨rfl, rfl⟩
set_option maxRecDepth 65536 in
set_option maxHeartbeats 40000000 in
theorem rmVt (l : Launch) (Z : State) (a0 : Array Value) (hw : ∀ d ∈ tables_1, d.before a0 Z = true) (ws : List Jvm.Cond) (p0 : Int32) (h0 : Heap) (n0 : Nat) (Z0 : n0 ≤ h0.size) :
    W.Con l Z (⟨"java/lang/StringLatin1", "toBytes", "(C)[B"⟩ : MethodName) jdk_43_method_46_code 1 (some (.array .byte)) ws ({ frames := 0, cells := 1, slots := 1, locals := 0 } : Room) ({ frames := 0, cells := 1, slots := 1, locals := 0 } : Room).cells ({ frames := 0, cells := 1, slots := 1, locals := 0 } : Room).slots #[(.int p0)] h0 n0 (fun v h => ∃ (r : Addr) (kr : ClassId), v = some (.ref r) ∧ n0 ≤ r ∧ h0.size ≤ r ∧ Keep h0 h [] ∧ Arv Z h r kr .byte (1 : Int32) [(.int (nar .byte ((p0).toInt8.toInt32)))] (.int 0)) := by
  refine W.enter (plainFor_of_name pn_2) Z0 ?_
  intro p e s m below meth c C hnm hsh
  have C : W.Cx p s m meth c Z n0 "java/lang/StringLatin1" jdk_43_method_46_code 1 (some (.array .byte)) := C
  refine W.Go.castF (ef_11v m p0) ?_
  refine W.iconst C (x := (1 : Int32)) d11_0 rfl rfl ?_
  refine W.newarray C (cap := 1) (hw _ (List.mem_of_getElem? (i := 19) rfl)) d11_1 rfl (by decide) (by decide) (by decide) (by decide) (by decide) (k' := 1) (n' := 1) rfl rfl ?_
  intro h1 b1 kc_b1 gb1 g0_b1 E1 Vb1
  have sz_b1 : h0.size ≤ b1 := by rw [gb1]; exact (Keep.refl h0 []).1
  have Vb1 : Arv Z h1 b1 kc_b1 .byte (1 : Int32) [(.int (0 : Int32))] (.int (0 : Int32)) := Vb1.pad (pad_rep [] (.int (0 : Int32)) 1)
  refine W.dup C d11_3 rfl rfl ?_
  refine W.iconst C (x := (0 : Int32)) d11_4 rfl rfl ?_
  refine W.iloadN C d11_5 rfl rfl ?_
  refine W.i2b C (z := ((p0).toInt8.toInt32)) d11_6 rfl rfl ?_
  refine W.bastore C Vb1 (by decide) (by decide) (show 0 < 1 from by decide) g0_b1 d11_7 rfl ?_
  intro h2 W2 V2
  have V2 : Arv Z h2 b1 kc_b1 .byte (1 : Int32) [(.int (nar .byte ((p0).toInt8.toInt32)))] (.int (0 : Int32)) := V2
  refine W.retA C rfl rfl rfl d11_8 (by decide) (by decide) (fun _ _ _ _ q => q) ?_
  exact ⟨b1, kc_b1, rfl, g0_b1, sz_b1, (((Keep.refl h0 []).ext E1).wr W2 (Or.inr sz_b1)), V2⟩
set_option maxRecDepth 65536 in
set_option maxHeartbeats 40000000 in
theorem rmVi (l : Launch) (Z : State) (a0 : Array Value) (hw : ∀ d ∈ tables_1, d.before a0 Z = true) (ws : List Jvm.Cond) (o0 o1 : Addr) (k1 : ClassId) (z : Int32) (vs : List Value) (h0 : Heap) (n0 : Nat) (Z0 : n0 ≤ h0.size) (E0 : Exa Z h0 o0 "java/lang/String") (F1 : Fld Z h0 o0 "java/lang/String" "value" "[B" .null) (F2 : Fld Z h0 o0 "java/lang/String" "coder" "B" (.int (0 : Int32))) (g0_o0 : n0 ≤ o0) (V1 : Arv Z h0 o1 k1 .byte z vs (.int 0)) (ne_o1_o0 : o1 ≠ o0) :
    W.Con l Z (⟨"java/lang/String", "<init>", "([BB)V"⟩ : MethodName) jdk_42_method_151_code 3 none ws ({ frames := 1, cells := 0, slots := 0, locals := 12 } : Room) ({ frames := 1, cells := 0, slots := 0, locals := 12 } : Room).cells ({ frames := 1, cells := 0, slots := 0, locals := 12 } : Room).slots #[(.ref o0), (.ref o1), (.int (0 : Int32))] h0 n0 (fun v h => v = none ∧ Keep h0 h [o0] ∧ own_Str Z h o0 o1 k1 z vs) := by
  refine W.enter (plainFor_of_name pn_1) Z0 ?_
  intro p e s m below meth c C hnm hsh
  have C : W.Cx p s m meth c Z n0 "java/lang/String" jdk_42_method_151_code 3 none := C
  refine W.Go.castF (ef_12v m o0 o1) ?_
  refine W.aloadN C d12_0 rfl rfl rfl ?_
  refine W.initObj C (hw _ (List.mem_of_getElem? (i := 15) rfl)) (hw _ (List.mem_of_getElem? (i := 16) rfl)) (hw _ (List.mem_of_getElem? (i := 17) rfl)) d12_1 rfl rfl (by decide) rfl (by decide) ?_
  refine W.aloadN C d12_4 rfl rfl rfl ?_
  refine W.aloadN C d12_5 rfl rfl rfl ?_
  refine W.putfield C (hw _ (List.mem_of_getElem? (i := 24) rfl)) Via.refl F1 E0 (Or.inr ⟨(hw _ (List.mem_of_getElem? (i := 20) rfl)), rfl, hnm⟩) (hw _ (List.mem_of_getElem? (i := 5) rfl)) (ty := (.array .byte)) (by decide) rfl rfl d12_6 rfl g0_o0 ?_
  intro h1 W1
  refine W.aloadN C d12_9 rfl rfl rfl ?_
  refine W.iloadN C d12_10 rfl rfl ?_
  refine W.putfield C (hw _ (List.mem_of_getElem? (i := 25) rfl)) Via.refl (F2.other W1 (Or.inr (slot_ne (Or.inr (hw _ (List.mem_of_getElem? (i := 21) rfl))) (Or.inr (hw _ (List.mem_of_getElem? (i := 20) rfl))) (by decide) (t := .byte) (t' := (.array .byte)) (by decide) (by decide)))) (E0.wr W1) (Or.inr ⟨(hw _ (List.mem_of_getElem? (i := 21) rfl)), rfl, hnm⟩) (hw _ (List.mem_of_getElem? (i := 5) rfl)) (ty := .byte) (by decide) rfl rfl d12_11 rfl g0_o0 ?_
  intro h2 W2
  refine W.ret0 C d12_14 (by decide) (by decide) (fun _ _ _ _ q => q) ?_
  exact ⟨rfl, (((Keep.refl h0 [o0]).wr W1 (Or.inl (List.mem_of_getElem? (i := 0) rfl))).wr W2 (Or.inl (List.mem_of_getElem? (i := 0) rfl))), ⟨((E0.wr W1).wr W2), ((F2.other W1 (Or.inr (slot_ne (Or.inr (hw _ (List.mem_of_getElem? (i := 21) rfl))) (Or.inr (hw _ (List.mem_of_getElem? (i := 20) rfl))) (by decide) (t := .byte) (t' := (.array .byte)) (by decide) (by decide)))).same W2), ((F1.same W1).other W2 (Or.inr (slot_ne (Or.inr (hw _ (List.mem_of_getElem? (i := 20) rfl))) (Or.inr (hw _ (List.mem_of_getElem? (i := 21) rfl))) (by decide) (t := (.array .byte)) (t' := .byte) (by decide) (by decide)))), ((V1.other W1 ne_o1_o0).other W2 ne_o1_o0)⟩⟩
set_option maxRecDepth 65536 in
set_option maxHeartbeats 40000000 in
theorem rmVo (l : Launch) (Z : State) (a0 : Array Value) (hw : ∀ d ∈ tables_1, d.before a0 Z = true) (ws : List Jvm.Cond) (p0 cs : Int32) (h0 : Heap) (n0 : Nat) (Z0 : n0 ≤ h0.size) (SC : Sta Z h0 "java/lang/String" "COMPACT_STRINGS" "Z" (.int cs)) (hcs : ¬ cs = 0) (r0 : 0 ≤ p0.toInt ∧ p0.toInt ≤ 255) :
    W.Con l Z (⟨"java/lang/String", "valueOf", "(C)Ljava/lang/String;"⟩ : MethodName) jdk_42_method_139_code 1 (some (.object "java/lang/String")) ws ({ frames := 2, cells := 2, slots := 5, locals := 28 } : Room) ({ frames := 2, cells := 2, slots := 5, locals := 28 } : Room).cells ({ frames := 2, cells := 2, slots := 5, locals := 28 } : Room).slots #[(.int p0)] h0 n0 (fun v h => ∃ (r b : Addr) (kb : ClassId), v = some (.ref r) ∧ n0 ≤ r ∧ h0.size ≤ r ∧ Keep h0 h [] ∧ own_Str Z h r b kb (1 : Int32) [(.int (nar .byte ((p0).toInt8.toInt32)))]) := by
  refine W.enter (plainFor_of_name pn_1) Z0 ?_
  intro p e s m below meth c C hnm hsh
  have C : W.Cx p s m meth c Z n0 "java/lang/String" jdk_42_method_139_code 1 (some (.object "java/lang/String")) := C
  refine W.Go.castF (ef_9v m p0) ?_
  refine W.getstatic C (hw _ (List.mem_of_getElem? (i := 54) rfl)) Via.refl SC d9_0 rfl ?_
  refine W.ifc C (pc' := 26) (pn := 6) d9_3 (by decide) rfl rfl (W.q_eq cs (0 : Int32)) (fun hc3 => ?_) (fun hc3 => ?_)
  · exfalso
    exact hcs hc3
  refine W.iloadN C d9_6 rfl rfl ?_
  refine W.callS C (y := (⟨"java/lang/StringLatin1", "canEncode", "(C)Z"⟩ : MethodName)) (hw _ (List.mem_of_getElem? (i := 64) rfl)) (hw _ (List.mem_of_getElem? (i := 65) rfl)) (hw _ (List.mem_of_getElem? (i := 57) rfl)) (hw _ (List.mem_of_getElem? (i := 66) rfl)) (by decide) (fun hz => rmVc l Z a0 hw [] p0 h0 n0 hz r0) d9_7 rfl rfl pd_4 rfl (argsL := [(.int p0)]) (rest := []) rfl (W := 0) rfl (by decide) (by decide) (by decide) (by decide) (k' := 0) (n' := 0) rfl rfl ?_
  rintro h1 _ ⟨rfl, rfl⟩
  show W.Go p l e _ _ m _ below meth c _ _ _ _ _ _ (mkF m 10 #[.val (.int p0)] [(.int (1 : Int32))])
  refine W.ifc C (pc' := 26) (pn := 13) d9_10 (by decide) rfl rfl (W.q_eq (1 : Int32) (0 : Int32)) (fun hc10 => ?_) (fun hc10 => ?_)
  · exact absurd hc10 (by decide)
  refine W.new C (hw _ (List.mem_of_getElem? (i := 53) rfl)) (hw _ (List.mem_of_getElem? (i := 5) rfl)) (hw _ (List.mem_of_getElem? (i := 6) rfl)) d9_13 rfl (by decide) (by decide) (k' := 1) (n' := 4) rfl rfl ?_
  intro h2 b2 gb2 g0_b2 E2 Ab2 Db2
  have sz_b2 : h0.size ≤ b2 := by rw [gb2]; exact (Keep.refl h0 []).1
  have Fb2_value : Fld Z h2 b2 "java/lang/String" "value" "[B" .null := Db2 (Or.inr (hw _ (List.mem_of_getElem? (i := 20) rfl))) (ty := (.array .byte)) (by decide)
  have Fb2_coder : Fld Z h2 b2 "java/lang/String" "coder" "B" (.int (0 : Int32)) := Db2 (Or.inr (hw _ (List.mem_of_getElem? (i := 21) rfl))) (ty := .byte) (by decide)
  refine W.dup C d9_16 rfl rfl ?_
  refine W.iloadN C d9_17 rfl rfl ?_
  refine W.callS C (y := (⟨"java/lang/StringLatin1", "toBytes", "(C)[B"⟩ : MethodName)) (hw _ (List.mem_of_getElem? (i := 67) rfl)) (hw _ (List.mem_of_getElem? (i := 68) rfl)) (hw _ (List.mem_of_getElem? (i := 57) rfl)) (hw _ (List.mem_of_getElem? (i := 69) rfl)) (by decide) (fun hz => rmVt l Z a0 hw [] p0 h2 n0 hz) d9_18 rfl rfl pd_5 rfl (argsL := [(.int p0)]) (rest := [(.ref b2), (.ref b2)]) rfl (W := 2) rfl (by decide) (by decide) (by decide) (by decide) (k' := 2) (n' := 5) rfl rfl ?_
  rintro ht _ ⟨r, kr, rfl, g0_r, sz_r, Kr, Vr⟩
  have ne_b2_r : b2 ≠ r := Nat.ne_of_lt (Nat.lt_of_lt_of_le Ab2.lt sz_r)
  have sz_r := Nat.le_trans ((Keep.refl h0 []).ext E2).1 sz_r
  show W.Go p l e _ _ m _ below meth c _ _ _ _ _ _ (mkF m 21 #[.val (.int p0)] [(.ref r), (.ref b2), (.ref b2)])
  refine W.iconst C (x := (0 : Int32)) d9_21 rfl rfl ?_
  refine W.callSp C (y := (⟨"java/lang/String", "<init>", "([BB)V"⟩ : MethodName)) (a := b2) rfl (hw _ (List.mem_of_getElem? (i := 70) rfl)) (hw _ (List.mem_of_getElem? (i := 71) rfl)) (hw _ (List.mem_of_getElem? (i := 6) rfl)) (hw _ (List.mem_of_getElem? (i := 72) rfl)) (by decide) (fun hz => rmVi l Z a0 hw [] b2 r kr (1 : Int32) [(.int (nar .byte ((p0).toInt8.toInt32)))] ht n0 hz (Ab2.keep Kr) (Fb2_value.keep Kr nin0) (Fb2_coder.keep Kr nin0) g0_b2 Vr (Ne.symm ne_b2_r)) d9_22 rfl rfl pd_6 rfl (argsL := [(.ref r), (.int (0 : Int32))]) (rest := [(.ref b2)]) rfl (W := 1) rfl (by decide) (by decide) (by decide) (by decide) (k' := 2) (n' := 5) rfl rfl ?_
  rintro h3 _ ⟨rfl, K3, O3⟩
  show W.Go p l e _ _ m _ below meth c _ _ _ _ _ _ (mkF m 25 #[.val (.int p0)] [(.ref b2)])
  refine W.retA C rfl rfl rfl d9_25 (by decide) (by decide) (fun _ _ _ _ q => q) ?_
  exact ⟨b2, r, kr, rfl, g0_b2, sz_b2, ((((Keep.refl h0 []).ext E2).trans Kr all0).trans K3 (allS (Or.inr sz_b2) all0)), ⟨O3.1, O3.2.1, O3.2.2.1, O3.2.2.2⟩⟩
theorem own_lext (vs us : List Value) (n : Nat) (h1 : vs.length = n) (h2 : us.length = n) (h : ∀ j : Nat, j < n → vs.getD j (.int 0) = us.getD j (.int 0)) : vs = us := by
  apply List.ext_getElem (h1.trans h2.symm)
  intro i a b
  have q := h i (by omega)
  simpa [List.getD, a, b] using q
set_option maxRecDepth 65536 in
set_option maxHeartbeats 40000000 in
theorem rmLg (l : Launch) (Z : State) (a0 : Array Value) (hw : ∀ d ∈ tables_1, d.before a0 Z = true) (ws : List Jvm.Cond) (av bv : Addr) (k0 k1 : ClassId) (z0 z1 : Int32) (vs us : List Value) (h0 : Heap) (n0 : Nat) (Z0 : n0 ≤ h0.size) (V0 : Arv Z h0 av k0 .byte z0 vs (.int 0)) (V1 : Arv Z h0 bv k1 .byte z1 us (.int 0)) (zl : vs.length = z0.toInt.toNat) (ul : us.length = z1.toInt.toNat) (q0 : 0 ≤ z0.toInt) (q1 : 0 ≤ z1.toInt) (vi : ∀ i : Nat, ∃ x : Int32, vs.getD i (.int 0) = .int x) (ui : ∀ i : Nat, ∃ x : Int32, us.getD i (.int 0) = .int x) :
    W.Con l Z (⟨"java/lang/StringLatin1", "equals", "([B[B)Z"⟩ : MethodName) jdk_43_method_13_code 3 (some .boolean) ws ({ frames := 0, cells := 0, slots := 0, locals := 0 } : Room) ({ frames := 0, cells := 0, slots := 0, locals := 0 } : Room).cells ({ frames := 0, cells := 0, slots := 0, locals := 0 } : Room).slots #[(.ref av), (.ref bv)] h0 n0 (fun v h => (∃ w : Int32, v = some (.int w) ∧ ((w = 1 ∧ vs = us) ∨ (w = 0 ∧ ¬ vs = us))) ∧ h0 = h) := by
  refine W.enter (plainFor_of_name pn_2) Z0 ?_
  intro p e s m below meth c C hnm hsh
  have C : W.Cx p s m meth c Z n0 "java/lang/StringLatin1" jdk_43_method_13_code 3 (some .boolean) := C
  refine W.Go.castF (ef_8g m av bv) ?_
  refine W.aloadN C d8_0 rfl rfl rfl ?_
  refine W.arraylength C V0 d8_1 rfl ?_
  refine W.aloadN C d8_2 rfl rfl rfl ?_
  refine W.arraylength C V1 d8_3 rfl ?_
  refine W.icmp C (pc' := 34) (pn := 7) d8_4 (by decide) rfl rfl (W.q_ne z0 z1) (fun hc4 => ?_) (fun hc4 => ?_)
  · refine W.iconst C (x := (0 : Int32)) d8_34 rfl rfl ?_
    refine W.retZ C (w := (0 : Int32)) (by simp) d8_35 (by decide) (by decide) (by decide) (fun _ _ _ _ q => q) ?_
    refine ⟨⟨_, rfl, Or.inr ⟨rfl, fun q => hc4 ?_⟩⟩, rfl⟩
    rw [q] at zl
    exact Int32.toInt_inj.mp (by omega)
  · have hzz : z0.toInt = z1.toInt := congrArg Int32.toInt hc4
    refine W.iconst C (x := (0 : Int32)) d8_7 rfl rfl ?_
    refine W.istoreN C (Ls' := #[.val (.ref av), .val (.ref bv), .val (.int (0 : Int32))]) d8_8 rfl rfl ?_
    have J9 : ∀ (nn : Nat) (i : Int32) (hn : i.toInt + nn = z0.toInt) (hi : 0 ≤ i.toInt) (hE : ∀ j : Nat, j < i.toInt.toNat → vs.getD j (.int 0) = us.getD j (.int 0)), W.Go p l e ({ frames := 0, cells := 0, slots := 0, locals := 0 } : Room) s m #[(.ref av), (.ref bv)] below meth c (fun s₂ o L => FrameEnd s o s₂ L ({ frames := 0, cells := 0, slots := 0, locals := 0 } : Room).cells ({ frames := 0, cells := 0, slots := 0, locals := 0 } : Room).slots) n0 (fun v h => (∃ w : Int32, v = some (.int w) ∧ ((w = 1 ∧ vs = us) ∨ (w = 0 ∧ ¬ vs = us))) ∧ h0 = h) h0 (0) (0) (mkF m 9 #[.val (.ref av), .val (.ref bv), .val (.int i)] []) := by
      intro nn
      induction nn with
      | zero => 
        intro i hn hi hE
        have ri := rng32 i
        have rz := rng32 z0
        refine W.iloadN C d8_9 rfl rfl ?_
        refine W.aloadN C d8_10 rfl rfl rfl ?_
        refine W.arraylength C V0 d8_11 rfl ?_
        refine W.icmp C (pc' := 32) (pn := 15) d8_12 (by decide) rfl rfl (W.q_ge i z0) (fun hc12 => ?_) (fun hc12 => ?_)
        rotate_left
        · exfalso
          omega
        refine W.iconst C (x := (1 : Int32)) d8_32 rfl rfl ?_
        refine W.retZ C (w := (1 : Int32)) (by simp) d8_33 (by decide) (by decide) (by decide) (fun _ _ _ _ q => q) ?_
        refine ⟨⟨_, rfl, Or.inl ⟨rfl, ?_⟩⟩, rfl⟩
        exact own_lext vs us z0.toInt.toNat zl (by rw [ul]; omega) (fun j hj => hE j (by omega))
      | succ nn ih => 
        intro i hn hi hE
        have ri := rng32 i
        have rz := rng32 z0
        refine W.iloadN C d8_9 rfl rfl ?_
        refine W.aloadN C d8_10 rfl rfl rfl ?_
        refine W.arraylength C V0 d8_11 rfl ?_
        refine W.icmp C (pc' := 32) (pn := 15) d8_12 (by decide) rfl rfl (W.q_ge i z0) (fun hc12 => ?_) (fun hc12 => ?_)
        · exfalso
          omega
        refine W.aloadN C d8_15 rfl rfl rfl ?_
        refine W.iloadN C d8_16 rfl rfl ?_
        obtain ⟨x, hx⟩ := vi i.toInt.toNat
        refine W.baload C (v := .int x) V0 hi (by omega) hx d8_17 rfl ?_
        refine W.aloadN C d8_18 rfl rfl rfl ?_
        refine W.iloadN C d8_19 rfl rfl ?_
        obtain ⟨y, hy⟩ := ui i.toInt.toNat
        refine W.baload C (v := .int y) V1 hi (by omega) hy d8_20 rfl ?_
        refine W.icmp C (pc' := 26) (pn := 24) d8_21 (by decide) rfl rfl (W.q_eq x y) (fun hc21 => ?_) (fun hc21 => ?_)
        · obtain ⟨v1, hv1⟩ : ∃ z__, z__ = (i + (1 : Int32)) := ⟨_, rfl⟩
          have fv1 := c_iadd i (1 : Int32)
          rw [← hv1] at fv1
          try simp only [Int32.reduceToInt, Int64.reduceToInt, Nat.reducePow, Int.reducePow, Int.cast_ofNat_Int] at fv1
          have rv1 := rng32 v1
          refine W.iinc C (z := v1) (Ls' := #[.val (.ref av), .val (.ref bv), .val (.int v1)]) d8_26 rfl rfl hv1.symm rfl ?_
          refine W.goto C (pc' := 9) d8_29 (by decide) rfl ?_
          exact ih v1 (by omega) (by omega) (fun j hj => by
            by_cases q : j < i.toInt.toNat
            · exact hE j q
            · have e : j = i.toInt.toNat := by omega
              rw [e, hx, hy, hc21])
        · refine W.iconst C (x := (0 : Int32)) d8_24 rfl rfl ?_
          refine W.retZ C (w := (0 : Int32)) (by simp) d8_25 (by decide) (by decide) (by decide) (fun _ _ _ _ q => q) ?_
          refine ⟨⟨_, rfl, Or.inr ⟨rfl, fun q => hc21 ?_⟩⟩, rfl⟩
          rw [q, hy] at hx
          exact (Value.int.inj hx).symm
    exact J9 z0.toInt.toNat 0 (by rw [show (0 : Int32).toInt = 0 from rfl]; omega) (by decide) (fun j hj => absurd hj (by rw [show (0 : Int32).toInt.toNat = 0 from rfl]; omega))
set_option maxRecDepth 65536 in
set_option maxHeartbeats 40000000 in
theorem rmEg (l : Launch) (Z : State) (a0 : Array Value) (hw : ∀ d ∈ tables_1, d.before a0 Z = true) (ws : List Jvm.Cond) (o0 o1 : Addr) (cs : Int32) (av bv : Addr) (k0 k1 : ClassId) (z0 z1 : Int32) (vs us : List Value) (h0 : Heap) (n0 : Nat) (Z0 : n0 ≤ h0.size) (SC : Sta Z h0 "java/lang/String" "COMPACT_STRINGS" "Z" (.int cs)) (hcs : ¬ cs = 0) (O0 : own_Str Z h0 o0 av k0 z0 vs) (O1 : own_Str Z h0 o1 bv k1 z1 us) (zl : vs.length = z0.toInt.toNat) (ul : us.length = z1.toInt.toNat) (q0 : 0 ≤ z0.toInt) (q1 : 0 ≤ z1.toInt) (vi : ∀ i : Nat, ∃ x : Int32, vs.getD i (.int 0) = .int x) (ui : ∀ i : Nat, ∃ x : Int32, us.getD i (.int 0) = .int x) (hs : o0 = o1 → vs = us) :
    W.Con l Z (⟨"java/lang/String", "equals", "(Ljava/lang/Object;)Z"⟩ : MethodName) jdk_42_method_66_code 3 (some .boolean) ws ({ frames := 1, cells := 0, slots := 0, locals := 14 } : Room) ({ frames := 1, cells := 0, slots := 0, locals := 14 } : Room).cells ({ frames := 1, cells := 0, slots := 0, locals := 14 } : Room).slots #[(.ref o0), (.ref o1)] h0 n0 (fun v h => (∃ w : Int32, v = some (.int w) ∧ ((w = 1 ∧ vs = us) ∨ (w = 0 ∧ ¬ vs = us))) ∧ h0 = h) := by
  refine W.enter (plainFor_of_name pn_1) Z0 ?_
  intro p e s m below meth c C hnm hsh
  have C : W.Cx p s m meth c Z n0 "java/lang/String" jdk_42_method_66_code 3 (some .boolean) := C
  refine W.Go.castF (ef_7g m o0 o1) ?_
  have V0 := O0.2.2.2
  have V1 := O1.2.2.2
  refine W.aloadN C d7_0 rfl rfl rfl ?_
  refine W.aloadN C d7_1 rfl rfl rfl ?_
  refine W.acmp C (pc' := 7) (pn := 5) rfl rfl d7_2 (by decide) rfl rfl (W.qa_ne o0 o1) (fun hc2 => ?_) (fun hc2 => ?_)
  · refine W.aloadN C d7_7 rfl rfl rfl ?_
    refine W.instT C (hw _ (List.mem_of_getElem? (i := 53) rfl)) (Ins.self O1.1) d7_8 rfl ?_
    refine W.ifc C (pc' := 54) (pn := 14) d7_11 (by decide) rfl rfl (W.q_eq (1 : Int32) (0 : Int32)) (fun hc11 => ?_) (fun hc11 => ?_)
    · exact absurd hc11 (by decide)
    refine W.aloadN C d7_14 rfl rfl rfl ?_
    refine W.castT C (hw _ (List.mem_of_getElem? (i := 53) rfl)) (Ins.self O1.1) d7_15 rfl ?_
    refine W.astoreN C (Ls' := #[.val (.ref o0), .val (.ref o1), .val (.ref o1)]) d7_18 rfl rfl rfl ?_
    refine W.getstatic C (hw _ (List.mem_of_getElem? (i := 54) rfl)) Via.refl SC d7_19 rfl ?_
    refine W.ifc C (pc' := 36) (pn := 25) d7_22 (by decide) rfl rfl (W.q_eq cs (0 : Int32)) (fun hc22 => ?_) (fun hc22 => ?_)
    · exfalso
      exact hcs hc22
    refine W.aloadN C d7_25 rfl rfl rfl ?_
    refine W.getfield C (hw _ (List.mem_of_getElem? (i := 25) rfl)) Via.refl O0.2.1 d7_26 rfl ?_
    refine W.aloadN C d7_29 rfl rfl rfl ?_
    refine W.getfield C (hw _ (List.mem_of_getElem? (i := 25) rfl)) Via.refl O1.2.1 d7_30 rfl ?_
    refine W.icmp C (pc' := 54) (pn := 36) d7_33 (by decide) rfl rfl (W.q_ne (0 : Int32) (0 : Int32)) (fun hc33 => ?_) (fun hc33 => ?_)
    · exact absurd rfl hc33
    refine W.aloadN C d7_36 rfl rfl rfl ?_
    refine W.getfield C (hw _ (List.mem_of_getElem? (i := 24) rfl)) Via.refl O0.2.2.1 d7_37 rfl ?_
    refine W.aloadN C d7_40 rfl rfl rfl ?_
    refine W.getfield C (hw _ (List.mem_of_getElem? (i := 24) rfl)) Via.refl O1.2.2.1 d7_41 rfl ?_
    refine W.callS C (y := (⟨"java/lang/StringLatin1", "equals", "([B[B)Z"⟩ : MethodName)) (hw _ (List.mem_of_getElem? (i := 55) rfl)) (hw _ (List.mem_of_getElem? (i := 56) rfl)) (hw _ (List.mem_of_getElem? (i := 57) rfl)) (hw _ (List.mem_of_getElem? (i := 58) rfl)) (by decide) (fun hz => rmLg l Z a0 hw [] av bv k0 k1 z0 z1 vs us h0 n0 hz V0 V1 zl ul q0 q1 vi ui) d7_44 rfl rfl pd_7 rfl (argsL := [(.ref av), (.ref bv)]) (rest := []) rfl (W := 0) rfl (by decide) (by decide) (by decide) (by decide) (k' := 0) (n' := 0) rfl rfl ?_
    rintro h1 _ ⟨⟨w, rfl, ⟨rfl, hq⟩ | ⟨rfl, hq⟩⟩, rfl⟩
    · show W.Go p l e _ _ m _ below meth c _ _ _ _ _ _ (mkF m 47 #[.val (.ref o0), .val (.ref o1), .val (.ref o1)] [(.int (1 : Int32))])
      refine W.ifc C (pc' := 54) (pn := 50) d7_47 (by decide) rfl rfl (W.q_eq (1 : Int32) (0 : Int32)) (fun hc47 => ?_) (fun hc47 => ?_)
      · exact absurd hc47 (by decide)
      refine W.iconst C (x := (1 : Int32)) d7_50 rfl rfl ?_
      refine W.goto C (pc' := 55) d7_51 (by decide) rfl ?_
      refine W.retZ C (w := (1 : Int32)) (by simp) d7_55 (by decide) (by decide) (by decide) (fun _ _ _ _ q => q) ?_
      exact ⟨⟨_, rfl, Or.inl ⟨rfl, hq⟩⟩, rfl⟩
    · show W.Go p l e _ _ m _ below meth c _ _ _ _ _ _ (mkF m 47 #[.val (.ref o0), .val (.ref o1), .val (.ref o1)] [(.int (0 : Int32))])
      refine W.ifc C (pc' := 54) (pn := 50) d7_47 (by decide) rfl rfl (W.q_eq (0 : Int32) (0 : Int32)) (fun hc47 => ?_) (fun hc47 => ?_)
      rotate_left
      · exact absurd rfl hc47
      refine W.iconst C (x := (0 : Int32)) d7_54 rfl rfl ?_
      refine W.retZ C (w := (0 : Int32)) (by simp) d7_55 (by decide) (by decide) (by decide) (fun _ _ _ _ q => q) ?_
      exact ⟨⟨_, rfl, Or.inr ⟨rfl, hq⟩⟩, rfl⟩
  · refine W.iconst C (x := (1 : Int32)) d7_5 rfl rfl ?_
    refine W.retZ C (w := (1 : Int32)) (by simp) d7_6 (by decide) (by decide) (by decide) (fun _ _ _ _ q => q) ?_
    exact ⟨⟨_, rfl, Or.inl ⟨rfl, hs hc2⟩⟩, rfl⟩
set_option maxRecDepth 65536 in
set_option maxHeartbeats 40000000 in
theorem rmM (l : Launch) (Z : State) (a0 : Array Value) (hw : ∀ d ∈ tables_1, d.before a0 Z = true) (hEL : EW Z a0 consts_1) (hSA : ∀ a ∈ Bundle.stringAtoms, a.before a0 Z = true) (ws : List Jvm.Cond) (p0 p1 p2 cs : Int32) (h0 : Heap) (n0 : Nat) (Z0 : n0 ≤ h0.size) (SC : Sta Z h0 "java/lang/String" "COMPACT_STRINGS" "Z" (.int cs)) (hcs : ¬ cs = 0) (rn : 0 ≤ p0.toInt ∧ p0.toInt ≤ 2) (r_p1 : 0 ≤ p1.toInt ∧ p1.toInt ≤ 255) (r_p2 : 0 ≤ p2.toInt ∧ p2.toInt ≤ 255) :
    W.ConL l Z consts_1 (⟨"com/example/useful_few/usefulfew/engine/PostEqualsPinLaw", "mk", "(ICC)Ljava/lang/String;"⟩ : MethodName) method_2_code 4 (some (.object "java/lang/String")) ws ({ frames := 4, cells := 6, slots := 12, locals := 66 } : Room) ({ frames := 4, cells := 6, slots := 12, locals := 66 } : Room).cells ({ frames := 4, cells := 6, slots := 12, locals := 66 } : Room).slots #[(.int p0), (.int p1), (.int p2)] h0 n0 [] (fun v h => ∃ (r b : Addr) (kb : ClassId), v = some (.ref r) ∧ n0 ≤ r ∧ h0.size ≤ r ∧ Keep h0 h [] ∧ own_Str Z h r b kb p0 (own_bs p0 p1 p2)) := by
  refine W.enterL (plainFor_of_name pn_3) Z0 hEL hSA ?_
  intro p e s0 m below meth c C hnm hsh LT SF0
  have C : W.Cx p (s0.setVm s0.vm) m meth c Z n0 "com/example/useful_few/usefulfew/engine/PostEqualsPinLaw" method_2_code 4 (some (.object "java/lang/String")) := C
  refine W.Go.castF (ef_1 m p0 p1 p2) ?_
  refine W.iloadN C d1_0 rfl rfl ?_
  refine W.ifc C (pc' := 15) (pn := 4) d1_1 (by decide) rfl rfl (W.q_ne p0 (0 : Int32)) (fun hc1 => ?_) (fun hc1 => ?_)
  · refine W.iloadN C d1_15 rfl rfl ?_
    refine W.iconst C (x := (1 : Int32)) d1_16 rfl rfl ?_
    refine W.icmp C (pc' := 25) (pn := 20) d1_17 (by decide) rfl rfl (W.q_ne p0 (1 : Int32)) (fun hc17 => ?_) (fun hc17 => ?_)
    · refine W.iconst C (x := (2 : Int32)) d1_25 rfl rfl ?_
      refine W.newarray C (cap := 2) (hw _ (List.mem_of_getElem? (i := 7) rfl)) d1_26 rfl (by decide) (by decide) (by decide) (by decide) (by decide) (k' := 1) (n' := 2) rfl rfl ?_
      intro h1 b1 kc_b1 gb1 g0_b1 E1 Vb1
      have sz_b1 : h0.size ≤ b1 := by rw [gb1]; exact (Keep.refl h0 []).1
      have sn_b1 := LT.sext E1 (Safe.new (Nat.le_of_eq gb1.symm))
      have Vb1 : Arv Z h1 b1 kc_b1 .char (2 : Int32) [(.int (0 : Int32)), (.int (0 : Int32))] (.int (0 : Int32)) := Vb1.pad (pad_rep [] (.int (0 : Int32)) 2)
      refine W.astoreN C (Ls' := #[.val (.int p0), .val (.int p1), .val (.int p2), .val (.ref b1)]) d1_28 rfl rfl rfl ?_
      refine W.aloadN C d1_29 rfl rfl rfl ?_
      refine W.iconst C (x := (0 : Int32)) d1_30 rfl rfl ?_
      refine W.iloadN C d1_31 rfl rfl ?_
      refine W.castore C Vb1 (by decide) (by decide) (show 0 < 2 from by decide) g0_b1 d1_32 rfl ?_
      intro h2 W2 V2
      have lw3 := (LT.ext E1).wr W2 sn_b1
      have sw4 := (LT.ext E1).swr W2 sn_b1 sn_b1
      have V2 : Arv Z h2 b1 kc_b1 .char (2 : Int32) [(.int (nar .char p1)), (.int (0 : Int32))] (.int (0 : Int32)) := V2
      refine W.aloadN C d1_33 rfl rfl rfl ?_
      refine W.iconst C (x := (1 : Int32)) d1_34 rfl rfl ?_
      refine W.iloadN C d1_35 rfl rfl ?_
      refine W.castore C V2 (by decide) (by decide) (show 1 < 2 from by decide) g0_b1 d1_36 rfl ?_
      intro h5 W5 V5
      have lw6 := lw3.wr W5 sw4
      have sw7 := lw3.swr W5 sw4 sw4
      have V5 : Arv Z h5 b1 kc_b1 .char (2 : Int32) [(.int (nar .char p1)), (.int (nar .char p2))] (.int (0 : Int32)) := V5
      have Vx : Arv Z h5 b1 kc_b1 .char 2 [.int p1, .int p2] (.int 0) := by
        have q := V5
        rw [own_narc p1 r_p1, own_narc p2 r_p2] at q; exact q
      refine W.new C (hw _ (List.mem_of_getElem? (i := 4) rfl)) (hw _ (List.mem_of_getElem? (i := 5) rfl)) (hw _ (List.mem_of_getElem? (i := 6) rfl)) d1_37 rfl (by decide) (by decide) (k' := 2) (n' := 6) rfl rfl ?_
      intro h8 b8 gb8 g0_b8 E8 Ab8 Db8
      have sz_b8 : h0.size ≤ b8 := by rw [gb8]; exact ((((Keep.refl h0 []).ext E1).wr W2 (Or.inr sz_b1)).wr W5 (Or.inr sz_b1)).1
      have ne_b1_b8 : b1 ≠ b8 := Nat.ne_of_lt (by rw [gb8]; exact Vx.lt)
      have sn_b8 := lw6.sext E8 (Safe.new (Nat.le_of_eq gb8.symm))
      have sx9 := lw6.sext E8 sw7
      have Fb8_value : Fld Z h8 b8 "java/lang/String" "value" "[B" .null := Db8 (Or.inr (hw _ (List.mem_of_getElem? (i := 20) rfl))) (ty := (.array .byte)) (by decide)
      have Fb8_coder : Fld Z h8 b8 "java/lang/String" "coder" "B" (.int (0 : Int32)) := Db8 (Or.inr (hw _ (List.mem_of_getElem? (i := 21) rfl))) (ty := .byte) (by decide)
      refine W.dup C d1_40 rfl rfl ?_
      refine W.aloadN C d1_41 rfl rfl rfl ?_
      refine W.callSp C (y := (⟨"java/lang/String", "<init>", "([C)V"⟩ : MethodName)) (a := b8) rfl (hw _ (List.mem_of_getElem? (i := 8) rfl)) (hw _ (List.mem_of_getElem? (i := 9) rfl)) (hw _ (List.mem_of_getElem? (i := 6) rfl)) (hw _ (List.mem_of_getElem? (i := 10) rfl)) (by decide) (fun hz => rmI1_2 l Z a0 hw [] b8 b1 kc_b1 cs p1 p2 h8 n0 hz Ab8 Fb8_value Fb8_coder g0_b8 (Vx.ext E8) ne_b1_b8 ((((SC.ext E1).wr W2).wr W5).ext E8) hcs r_p1 r_p2) d1_42 rfl rfl pd_8 rfl (argsL := [(.ref b1)]) (rest := [(.ref b8)]) rfl (W := 1) rfl (by decide) (by decide) (by decide) (by decide) (k' := 3) (n' := 8) rfl rfl ?_
      rintro h10 _ ⟨rfl, b10, kb10, K10, sz_b10, O10⟩
      have ne_b1_b10 : b1 ≠ b10 := Nat.ne_of_lt (Nat.lt_of_lt_of_le (Vx.ext E8).lt sz_b10)
      have ne_b8_b10 : b8 ≠ b10 := Nat.ne_of_lt (Nat.lt_of_lt_of_le Ab8.lt sz_b10)
      have sz_b10 := Nat.le_trans (((((Keep.refl h0 []).ext E1).wr W2 (Or.inr sz_b1)).wr W5 (Or.inr sz_b1)).ext E8).1 sz_b10
      have lk11 := (lw6.ext E8).keep K10 (allS sn_b8 all0)
      have sk12 := (lw6.ext E8).skeep K10 (allS sn_b8 all0) sx9
      have sk13 := (lw6.ext E8).skeep K10 (allS sn_b8 all0) sn_b8
      show W.Go p l e _ _ m _ below meth c _ _ _ _ _ _ (mkF m 45 #[.val (.int p0), .val (.int p1), .val (.int p2), .val (.ref b1)] [(.ref b8)])
      refine W.retA C rfl rfl rfl d1_45 (by decide) (by decide) (W.Lt.fin lk11) ?_
      have e : p0 = 2 := (own_n3 p0 rn).elim (fun q => absurd q hc1) (fun q => q.elim (fun q => absurd q hc17) id)
      exact ⟨b8, b10, kb10, rfl, g0_b8, sz_b8, ((((((Keep.refl h0 []).ext E1).wr W2 (Or.inr sz_b1)).wr W5 (Or.inr sz_b1)).ext E8).trans K10 (allS (Or.inr sz_b8) all0)), by rw [e, own_bs2]; exact ⟨O10.1, O10.2.1, O10.2.2.1, O10.2.2.2⟩⟩
    · refine W.iloadN C d1_20 rfl rfl ?_
      refine W.callS C (y := (⟨"java/lang/String", "valueOf", "(C)Ljava/lang/String;"⟩ : MethodName)) (hw _ (List.mem_of_getElem? (i := 61) rfl)) (hw _ (List.mem_of_getElem? (i := 62) rfl)) (hw _ (List.mem_of_getElem? (i := 6) rfl)) (hw _ (List.mem_of_getElem? (i := 63) rfl)) (by decide) (fun hz => rmVo l Z a0 hw [] p1 cs h0 n0 hz SC hcs r_p1) d1_21 rfl rfl pd_9 rfl (argsL := [(.int p1)]) (rest := []) rfl (W := 0) rfl (by decide) (by decide) (by decide) (by decide) (k' := 2) (n' := 5) rfl rfl ?_
      rintro h14 _ ⟨r14, b14, kb14, rfl, g0_r14, sz_r14, K14, O14⟩
      have sz_r14 := Nat.le_trans (Keep.refl h0 []).1 sz_r14
      have lk15 := LT.keep K14 all0
      show W.Go p l e _ _ m _ below meth c _ _ _ _ _ _ (mkF m 24 #[.val (.int p0), .val (.int p1), .val (.int p2), .unset] [(.ref r14)])
      refine W.retA C rfl rfl rfl d1_24 (by decide) (by decide) (W.Lt.fin lk15) ?_
      have e := hc17
      exact ⟨r14, b14, kb14, rfl, g0_r14, sz_r14, ((Keep.refl h0 []).trans K14 all0), by rw [e, own_bs1]; exact ⟨O14.1, O14.2.1, O14.2.2.1, O14.2.2.2⟩⟩
  · refine W.new C (hw _ (List.mem_of_getElem? (i := 4) rfl)) (hw _ (List.mem_of_getElem? (i := 5) rfl)) (hw _ (List.mem_of_getElem? (i := 6) rfl)) d1_4 rfl (by decide) (by decide) (k' := 1) (n' := 4) rfl rfl ?_
    intro h16 b16 gb16 g0_b16 E16 Ab16 Db16
    have sz_b16 : h0.size ≤ b16 := by rw [gb16]; exact (Keep.refl h0 []).1
    have sn_b16 := LT.sext E16 (Safe.new (Nat.le_of_eq gb16.symm))
    have Fb16_value : Fld Z h16 b16 "java/lang/String" "value" "[B" .null := Db16 (Or.inr (hw _ (List.mem_of_getElem? (i := 20) rfl))) (ty := (.array .byte)) (by decide)
    have Fb16_coder : Fld Z h16 b16 "java/lang/String" "coder" "B" (.int (0 : Int32)) := Db16 (Or.inr (hw _ (List.mem_of_getElem? (i := 21) rfl))) (ty := .byte) (by decide)
    refine W.dup C d1_7 rfl rfl ?_
    refine W.iconst C (x := (0 : Int32)) d1_8 rfl rfl ?_
    refine W.newarray C (cap := 0) (hw _ (List.mem_of_getElem? (i := 7) rfl)) d1_9 rfl (by decide) (by decide) (by decide) (by decide) (by decide) (k' := 2) (n' := 4) rfl rfl ?_
    intro h17 b17 kc_b17 gb17 g0_b17 E17 Vb17
    have sz_b17 : h0.size ≤ b17 := by rw [gb17]; exact ((Keep.refl h0 []).ext E16).1
    have ne_b16_b17 : b16 ≠ b17 := Nat.ne_of_lt (by rw [gb17]; exact Ab16.lt)
    have sn_b17 := (LT.ext E16).sext E17 (Safe.new (Nat.le_of_eq gb17.symm))
    have sx18 := (LT.ext E16).sext E17 sn_b16
    have Vb17 : Arv Z h17 b17 kc_b17 .char (0 : Int32) [] (.int (0 : Int32)) := Vb17.pad (pad_rep [] (.int (0 : Int32)) 0)
    refine W.callSpL C (y := (⟨"java/lang/String", "<init>", "([C)V"⟩ : MethodName)) (b := b16) ((LT.ext E16).ext E17) rfl (hw _ (List.mem_of_getElem? (i := 8) rfl)) (hw _ (List.mem_of_getElem? (i := 9) rfl)) (hw _ (List.mem_of_getElem? (i := 6) rfl)) (hw _ (List.mem_of_getElem? (i := 10) rfl)) (by decide) (fun hz => rmI1_0 l Z a0 hw hEL hSA [] b16 b17 kc_b17 h17 n0 hz (Ab16.ext E17) (Fb16_value.ext E17) (Fb16_coder.ext E17) g0_b16 Vb17) (fun x hx => by simp only [List.mem_cons, List.not_mem_nil, or_false] at hx; rcases hx with rfl; exact ⟨(Ab16.ext E17).lt, sx18⟩) d1_11 rfl rfl pd_8 rfl (argsL := [(.ref b17)]) (rest := [(.ref b16)]) rfl (W := 1) rfl (by decide) (by decide) (by decide) (by decide) (k' := 6) (n' := 12) rfl rfl ?_
    rintro vm19 k19 h19 _ C LT19 SF19 ⟨rfl, b19, kb19, K19, O19⟩
    have sc19_b16 := SF19 b16 (Ab16.ext E17).lt sx18
    have sc19_b17 := SF19 b17 Vb17.lt sn_b17
    show W.Go p l e _ _ m _ below meth c _ _ _ _ _ _ (mkF m 14 #[.val (.int p0), .val (.int p1), .val (.int p2), .unset] [(.ref b16)])
    refine W.retA C rfl rfl rfl d1_14 (by decide) (by decide) (W.Lt.fin LT19) ?_
    have e := hc1
    exact ⟨b16, b19, kb19, rfl, g0_b16, sz_b16, ((((Keep.refl h0 []).ext E16).ext E17).trans K19 (allS (Or.inr sz_b16) all0)), by rw [e, own_bs0]; exact ⟨O19.1, O19.2.1, O19.2.2.1, O19.2.2.2⟩⟩
set_option maxRecDepth 65536 in
set_option maxHeartbeats 40000000 in
theorem rm5 (l : Launch) (Z : State) (a0 : Array Value) (hw : ∀ d ∈ tables_1, d.before a0 Z = true) (ws : List Jvm.Cond) (o0 : Addr) (o1 : Addr) (p2 : Int32) (q3 : Int64) (p4 : Int32) (h0 : Heap) (n0 : Nat) (Z0 : n0 ≤ h0.size) (O0 : own_P Z h0 o0 .null (0 : Int32) (0 : Int64) (0 : Int32)) (g0_o0 : n0 ≤ o0) :
    W.Con l Z (⟨"com/example/useful_few/usefulfew/engine/Post", "<init>", "(Ljava/lang/String;IJI)V"⟩ : MethodName) prog_19_method_1_code 6 none ws ({ frames := 1, cells := 0, slots := 0, locals := 12 } : Room) ({ frames := 1, cells := 0, slots := 0, locals := 12 } : Room).cells ({ frames := 1, cells := 0, slots := 0, locals := 12 } : Room).slots #[(.ref o0), (.ref o1), (.int p2), (.long q3), (.int p4)] h0 n0 (fun v h => v = none ∧ Keep h0 h [o0] ∧ own_P Z h o0 (.ref o1) p2 q3 p4) := by
  refine W.enter (plainFor_of_name pn_4) Z0 ?_
  intro p e s m below meth c C hnm hsh
  have C : W.Cx p s m meth c Z n0 "com/example/useful_few/usefulfew/engine/Post" prog_19_method_1_code 6 none := C
  refine W.Go.castF (ef_5 m o0 o1 p2 q3 p4) ?_
  refine W.aloadN C d5_0 rfl rfl rfl ?_
  refine W.initObj C (hw _ (List.mem_of_getElem? (i := 32) rfl)) (hw _ (List.mem_of_getElem? (i := 16) rfl)) (hw _ (List.mem_of_getElem? (i := 17) rfl)) d5_1 rfl rfl (by decide) rfl (by decide) ?_
  refine W.aloadN C d5_4 rfl rfl rfl ?_
  refine W.aloadN C d5_5 rfl rfl rfl ?_
  refine W.putfield C (hw _ (List.mem_of_getElem? (i := 33) rfl)) Via.refl O0.2.1 O0.1 (Or.inr ⟨(hw _ (List.mem_of_getElem? (i := 34) rfl)), rfl, hnm⟩) (hw _ (List.mem_of_getElem? (i := 27) rfl)) (ty := (.object "java/lang/String")) (by decide) rfl rfl d5_6 rfl g0_o0 ?_
  intro h1 W1
  refine W.aloadN C d5_9 rfl rfl rfl ?_
  refine W.iloadN C d5_10 rfl rfl ?_
  refine W.putfield C (hw _ (List.mem_of_getElem? (i := 35) rfl)) Via.refl (O0.2.2.1.other W1 (Or.inr (slot_ne (Or.inr (hw _ (List.mem_of_getElem? (i := 36) rfl))) (Or.inr (hw _ (List.mem_of_getElem? (i := 34) rfl))) (by decide) (t := .int) (t' := (.object "java/lang/String")) (by decide) (by decide)))) (O0.1.wr W1) (Or.inr ⟨(hw _ (List.mem_of_getElem? (i := 36) rfl)), rfl, hnm⟩) (hw _ (List.mem_of_getElem? (i := 27) rfl)) (ty := .int) (by decide) rfl rfl d5_11 rfl g0_o0 ?_
  intro h2 W2
  refine W.aloadN C d5_14 rfl rfl rfl ?_
  refine W.lloadN C d5_15 rfl rfl ?_
  refine W.putfield C (hw _ (List.mem_of_getElem? (i := 37) rfl)) Via.refl ((O0.2.2.2.1.other W1 (Or.inr (slot_ne (Or.inr (hw _ (List.mem_of_getElem? (i := 38) rfl))) (Or.inr (hw _ (List.mem_of_getElem? (i := 34) rfl))) (by decide) (t := .long) (t' := (.object "java/lang/String")) (by decide) (by decide)))).other W2 (Or.inr (slot_ne (Or.inr (hw _ (List.mem_of_getElem? (i := 38) rfl))) (Or.inr (hw _ (List.mem_of_getElem? (i := 36) rfl))) (by decide) (t := .long) (t' := .int) (by decide) (by decide)))) ((O0.1.wr W1).wr W2) (Or.inr ⟨(hw _ (List.mem_of_getElem? (i := 38) rfl)), rfl, hnm⟩) (hw _ (List.mem_of_getElem? (i := 27) rfl)) (ty := .long) (by decide) rfl rfl d5_16 rfl g0_o0 ?_
  intro h3 W3
  refine W.aloadN C d5_19 rfl rfl rfl ?_
  refine W.iload C d5_20 rfl rfl ?_
  refine W.putfield C (hw _ (List.mem_of_getElem? (i := 39) rfl)) Via.refl (((O0.2.2.2.2.other W1 (Or.inr (slot_ne (Or.inr (hw _ (List.mem_of_getElem? (i := 40) rfl))) (Or.inr (hw _ (List.mem_of_getElem? (i := 34) rfl))) (by decide) (t := .int) (t' := (.object "java/lang/String")) (by decide) (by decide)))).other W2 (Or.inr (slot_ne (Or.inr (hw _ (List.mem_of_getElem? (i := 40) rfl))) (Or.inr (hw _ (List.mem_of_getElem? (i := 36) rfl))) (by decide) (t := .int) (t' := .int) (by decide) (by decide)))).other W3 (Or.inr (slot_ne (Or.inr (hw _ (List.mem_of_getElem? (i := 40) rfl))) (Or.inr (hw _ (List.mem_of_getElem? (i := 38) rfl))) (by decide) (t := .int) (t' := .long) (by decide) (by decide)))) (((O0.1.wr W1).wr W2).wr W3) (Or.inr ⟨(hw _ (List.mem_of_getElem? (i := 40) rfl)), rfl, hnm⟩) (hw _ (List.mem_of_getElem? (i := 27) rfl)) (ty := .int) (by decide) rfl rfl d5_22 rfl g0_o0 ?_
  intro h4 W4
  refine W.ret0 C d5_25 (by decide) (by decide) (fun _ _ _ _ q => q) ?_
  exact ⟨rfl, (((((Keep.refl h0 [o0]).wr W1 (Or.inl (List.mem_of_getElem? (i := 0) rfl))).wr W2 (Or.inl (List.mem_of_getElem? (i := 0) rfl))).wr W3 (Or.inl (List.mem_of_getElem? (i := 0) rfl))).wr W4 (Or.inl (List.mem_of_getElem? (i := 0) rfl))), ⟨((((O0.1.wr W1).wr W2).wr W3).wr W4), ((((O0.2.1.same W1).other W2 (Or.inr (slot_ne (Or.inr (hw _ (List.mem_of_getElem? (i := 34) rfl))) (Or.inr (hw _ (List.mem_of_getElem? (i := 36) rfl))) (by decide) (t := (.object "java/lang/String")) (t' := .int) (by decide) (by decide)))).other W3 (Or.inr (slot_ne (Or.inr (hw _ (List.mem_of_getElem? (i := 34) rfl))) (Or.inr (hw _ (List.mem_of_getElem? (i := 38) rfl))) (by decide) (t := (.object "java/lang/String")) (t' := .long) (by decide) (by decide)))).other W4 (Or.inr (slot_ne (Or.inr (hw _ (List.mem_of_getElem? (i := 34) rfl))) (Or.inr (hw _ (List.mem_of_getElem? (i := 40) rfl))) (by decide) (t := (.object "java/lang/String")) (t' := .int) (by decide) (by decide)))), ((((O0.2.2.1.other W1 (Or.inr (slot_ne (Or.inr (hw _ (List.mem_of_getElem? (i := 36) rfl))) (Or.inr (hw _ (List.mem_of_getElem? (i := 34) rfl))) (by decide) (t := .int) (t' := (.object "java/lang/String")) (by decide) (by decide)))).same W2).other W3 (Or.inr (slot_ne (Or.inr (hw _ (List.mem_of_getElem? (i := 36) rfl))) (Or.inr (hw _ (List.mem_of_getElem? (i := 38) rfl))) (by decide) (t := .int) (t' := .long) (by decide) (by decide)))).other W4 (Or.inr (slot_ne (Or.inr (hw _ (List.mem_of_getElem? (i := 36) rfl))) (Or.inr (hw _ (List.mem_of_getElem? (i := 40) rfl))) (by decide) (t := .int) (t' := .int) (by decide) (by decide)))), ((((O0.2.2.2.1.other W1 (Or.inr (slot_ne (Or.inr (hw _ (List.mem_of_getElem? (i := 38) rfl))) (Or.inr (hw _ (List.mem_of_getElem? (i := 34) rfl))) (by decide) (t := .long) (t' := (.object "java/lang/String")) (by decide) (by decide)))).other W2 (Or.inr (slot_ne (Or.inr (hw _ (List.mem_of_getElem? (i := 38) rfl))) (Or.inr (hw _ (List.mem_of_getElem? (i := 36) rfl))) (by decide) (t := .long) (t' := .int) (by decide) (by decide)))).same W3).other W4 (Or.inr (slot_ne (Or.inr (hw _ (List.mem_of_getElem? (i := 38) rfl))) (Or.inr (hw _ (List.mem_of_getElem? (i := 40) rfl))) (by decide) (t := .long) (t' := .int) (by decide) (by decide)))), ((((O0.2.2.2.2.other W1 (Or.inr (slot_ne (Or.inr (hw _ (List.mem_of_getElem? (i := 40) rfl))) (Or.inr (hw _ (List.mem_of_getElem? (i := 34) rfl))) (by decide) (t := .int) (t' := (.object "java/lang/String")) (by decide) (by decide)))).other W2 (Or.inr (slot_ne (Or.inr (hw _ (List.mem_of_getElem? (i := 40) rfl))) (Or.inr (hw _ (List.mem_of_getElem? (i := 36) rfl))) (by decide) (t := .int) (t' := .int) (by decide) (by decide)))).other W3 (Or.inr (slot_ne (Or.inr (hw _ (List.mem_of_getElem? (i := 40) rfl))) (Or.inr (hw _ (List.mem_of_getElem? (i := 38) rfl))) (by decide) (t := .int) (t' := .long) (by decide) (by decide)))).same W4)⟩⟩
set_option maxRecDepth 65536 in
set_option maxHeartbeats 40000000 in
theorem rmPe (l : Launch) (Z : State) (a0 : Array Value) (hw : ∀ d ∈ tables_1, d.before a0 Z = true) (ws : List Jvm.Cond) (o0 o1 s0 s1 v0 v1 : Addr) (k0 k1 : ClassId) (z0 z1 c0 c1 m0 m1 cs : Int32) (t0 t1 : Int64) (vs us : List Value) (h0 : Heap) (n0 : Nat) (Z0 : n0 ≤ h0.size) (SC : Sta Z h0 "java/lang/String" "COMPACT_STRINGS" "Z" (.int cs)) (hcs : ¬ cs = 0) (O0 : own_P Z h0 o0 (.ref s0) c0 t0 m0) (O1 : own_P Z h0 o1 (.ref s1) c1 t1 m1) (S0 : own_Str Z h0 s0 v0 k0 z0 vs) (S1 : own_Str Z h0 s1 v1 k1 z1 us) (zl : vs.length = z0.toInt.toNat) (ul : us.length = z1.toInt.toNat) (q0 : 0 ≤ z0.toInt) (q1 : 0 ≤ z1.toInt) (vi : ∀ i : Nat, ∃ x : Int32, vs.getD i (.int 0) = .int x) (ui : ∀ i : Nat, ∃ x : Int32, us.getD i (.int 0) = .int x) (hs : s0 = s1 → vs = us) :
    W.Con l Z (⟨"com/example/useful_few/usefulfew/engine/Post", "equals", "(Ljava/lang/Object;)Z"⟩ : MethodName) prog_19_method_6_code 3 (some .boolean) ws ({ frames := 2, cells := 0, slots := 0, locals := 28 } : Room) ({ frames := 2, cells := 0, slots := 0, locals := 28 } : Room).cells ({ frames := 2, cells := 0, slots := 0, locals := 28 } : Room).slots #[(.ref o0), (.ref o1)] h0 n0 (fun v h => (∃ w : Int32, v = some (.int w) ∧ ((w = 1 ∧ (vs = us ∧ c0 = c1 ∧ t0 = t1 ∧ m0 = m1)) ∨ (w = 0 ∧ ¬ (vs = us ∧ c0 = c1 ∧ t0 = t1 ∧ m0 = m1)))) ∧ h0 = h) := by
  refine W.enter (plainFor_of_name pn_4) Z0 ?_
  intro p e s m below meth c C hnm hsh
  have C : W.Cx p s m meth c Z n0 "com/example/useful_few/usefulfew/engine/Post" prog_19_method_6_code 3 (some .boolean) := C
  refine W.Go.castF (ef_6e m o0 o1) ?_
  refine W.aloadN C d6_0 rfl rfl rfl ?_
  refine W.instT C (hw _ (List.mem_of_getElem? (i := 46) rfl)) (Ins.self O1.1) d6_1 rfl ?_
  refine W.ifc C (pc' := 9) (pn := 7) d6_4 (by decide) rfl rfl (W.q_ne (1 : Int32) (0 : Int32)) (fun hc4 => ?_) (fun hc4 => ?_)
  rotate_left
  · exact absurd hc4 (by decide)
  refine W.aloadN C d6_9 rfl rfl rfl ?_
  refine W.castT C (hw _ (List.mem_of_getElem? (i := 46) rfl)) (Ins.self O1.1) d6_10 rfl ?_
  refine W.astoreN C (Ls' := #[.val (.ref o0), .val (.ref o1), .val (.ref o1)]) d6_13 rfl rfl rfl ?_
  refine W.aloadN C d6_14 rfl rfl rfl ?_
  refine W.getfield C (hw _ (List.mem_of_getElem? (i := 33) rfl)) Via.refl O0.2.1 d6_15 rfl ?_
  refine W.aloadN C d6_18 rfl rfl rfl ?_
  refine W.getfield C (hw _ (List.mem_of_getElem? (i := 33) rfl)) Via.refl O1.2.1 d6_19 rfl ?_
  refine W.callV C (y := (⟨"java/lang/String", "equals", "(Ljava/lang/Object;)Z"⟩ : MethodName)) (a := s0) (hw _ (List.mem_of_getElem? (i := 48) rfl)) (hw _ (List.mem_of_getElem? (i := 49) rfl)) (W.nf_sel C (hw _ (List.mem_of_getElem? (i := 51) rfl))) (hw _ (List.mem_of_getElem? (i := 51) rfl)) (hw _ (List.mem_of_getElem? (i := 50) rfl)) (hw _ (List.mem_of_getElem? (i := 6) rfl)) (hw _ (List.mem_of_getElem? (i := 52) rfl)) (by decide) S0.1 (fun hz => rmEg l Z a0 hw [] s0 s1 cs v0 v1 k0 k1 z0 z1 vs us h0 n0 hz SC hcs S0 S1 zl ul q0 q1 vi ui hs) d6_22 rfl rfl pd_10 rfl (argsL := [(.ref s1)]) (rest := []) rfl (W := 0) rfl (by decide) (by decide) (by decide) (by decide) (k' := 0) (n' := 0) rfl rfl ?_
  rintro h1 _ ⟨⟨w, rfl, ⟨rfl, hq⟩ | ⟨rfl, hq⟩⟩, rfl⟩
  · show W.Go p l e _ _ m _ below meth c _ _ _ _ _ _ (mkF m 25 #[.val (.ref o0), .val (.ref o1), .val (.ref o1)] [(.int (1 : Int32))])
    refine W.ifc C (pc' := 66) (pn := 28) d6_25 (by decide) rfl rfl (W.q_eq (1 : Int32) (0 : Int32)) (fun hc25 => ?_) (fun hc25 => ?_)
    · exact absurd hc25 (by decide)
    refine W.aloadN C d6_28 rfl rfl rfl ?_
    refine W.getfield C (hw _ (List.mem_of_getElem? (i := 35) rfl)) Via.refl O0.2.2.1 d6_29 rfl ?_
    refine W.aloadN C d6_32 rfl rfl rfl ?_
    refine W.getfield C (hw _ (List.mem_of_getElem? (i := 35) rfl)) Via.refl O1.2.2.1 d6_33 rfl ?_
    refine W.icmp C (pc' := 66) (pn := 39) d6_36 (by decide) rfl rfl (W.q_ne c0 c1) (fun hc36 => ?_) (fun hc36 => ?_)
    · refine W.iconst C (x := (0 : Int32)) d6_66 rfl rfl ?_
      refine W.retZ C (w := (0 : Int32)) (by simp) d6_67 (by decide) (by decide) (by decide) (fun _ _ _ _ q => q) ?_
      exact ⟨⟨_, rfl, Or.inr ⟨rfl, fun q => hc36 q.2.1⟩⟩, rfl⟩
    · refine W.aloadN C d6_39 rfl rfl rfl ?_
      refine W.getfield C (hw _ (List.mem_of_getElem? (i := 37) rfl)) Via.refl O0.2.2.2.1 d6_40 rfl ?_
      refine W.aloadN C d6_43 rfl rfl rfl ?_
      refine W.getfield C (hw _ (List.mem_of_getElem? (i := 37) rfl)) Via.refl O1.2.2.2.1 d6_44 rfl ?_
      refine W.lcif C (pm := 48) (pc' := 66) (pn := 51) d6_47 rfl d6_48 (by decide) rfl rfl (W.ql_ne t0 t1) (fun hc47 => ?_) (fun hc47 => ?_)
      · refine W.iconst C (x := (0 : Int32)) d6_66 rfl rfl ?_
        refine W.retZ C (w := (0 : Int32)) (by simp) d6_67 (by decide) (by decide) (by decide) (fun _ _ _ _ q => q) ?_
        exact ⟨⟨_, rfl, Or.inr ⟨rfl, fun q => hc47 q.2.2.1⟩⟩, rfl⟩
      · refine W.aloadN C d6_51 rfl rfl rfl ?_
        refine W.getfield C (hw _ (List.mem_of_getElem? (i := 39) rfl)) Via.refl O0.2.2.2.2 d6_52 rfl ?_
        refine W.aloadN C d6_55 rfl rfl rfl ?_
        refine W.getfield C (hw _ (List.mem_of_getElem? (i := 39) rfl)) Via.refl O1.2.2.2.2 d6_56 rfl ?_
        refine W.icmp C (pc' := 66) (pn := 62) d6_59 (by decide) rfl rfl (W.q_ne m0 m1) (fun hc59 => ?_) (fun hc59 => ?_)
        · refine W.iconst C (x := (0 : Int32)) d6_66 rfl rfl ?_
          refine W.retZ C (w := (0 : Int32)) (by simp) d6_67 (by decide) (by decide) (by decide) (fun _ _ _ _ q => q) ?_
          exact ⟨⟨_, rfl, Or.inr ⟨rfl, fun q => hc59 q.2.2.2⟩⟩, rfl⟩
        · refine W.iconst C (x := (1 : Int32)) d6_62 rfl rfl ?_
          refine W.goto C (pc' := 67) d6_63 (by decide) rfl ?_
          refine W.retZ C (w := (1 : Int32)) (by simp) d6_67 (by decide) (by decide) (by decide) (fun _ _ _ _ q => q) ?_
          exact ⟨⟨_, rfl, Or.inl ⟨rfl, hq, hc36, hc47, hc59⟩⟩, rfl⟩
  · show W.Go p l e _ _ m _ below meth c _ _ _ _ _ _ (mkF m 25 #[.val (.ref o0), .val (.ref o1), .val (.ref o1)] [(.int (0 : Int32))])
    refine W.ifc C (pc' := 66) (pn := 28) d6_25 (by decide) rfl rfl (W.q_eq (0 : Int32) (0 : Int32)) (fun hc25 => ?_) (fun hc25 => ?_)
    rotate_left
    · exact absurd rfl hc25
    refine W.iconst C (x := (0 : Int32)) d6_66 rfl rfl ?_
    refine W.retZ C (w := (0 : Int32)) (by simp) d6_67 (by decide) (by decide) (by decide) (fun _ _ _ _ q => q) ?_
    exact ⟨⟨_, rfl, Or.inr ⟨rfl, fun q => hq q.1⟩⟩, rfl⟩
set_option maxRecDepth 65536 in
set_option maxHeartbeats 40000000 in
theorem rmPn (l : Launch) (Z : State) (a0 : Array Value) (hw : ∀ d ∈ tables_1, d.before a0 Z = true) (ws : List Jvm.Cond) (o0 : Addr) (h0 : Heap) (n0 : Nat) (Z0 : n0 ≤ h0.size) :
    W.Con l Z (⟨"com/example/useful_few/usefulfew/engine/Post", "equals", "(Ljava/lang/Object;)Z"⟩ : MethodName) prog_19_method_6_code 3 (some .boolean) ws ({ frames := 0, cells := 0, slots := 0, locals := 0 } : Room) ({ frames := 0, cells := 0, slots := 0, locals := 0 } : Room).cells ({ frames := 0, cells := 0, slots := 0, locals := 0 } : Room).slots #[(.ref o0), .null] h0 n0 (fun v h => v = some (.int 0) ∧ h0 = h) := by
  refine W.enter (plainFor_of_name pn_4) Z0 ?_
  intro p e s m below meth c C hnm hsh
  have C : W.Cx p s m meth c Z n0 "com/example/useful_few/usefulfew/engine/Post" prog_19_method_6_code 3 (some .boolean) := C
  refine W.Go.castF (ef_6n m o0) ?_
  refine W.aloadN C d6_0 rfl rfl rfl ?_
  refine W.instN C d6_1 rfl ?_
  refine W.ifc C (pc' := 9) (pn := 7) d6_4 (by decide) rfl rfl (W.q_ne (0 : Int32) (0 : Int32)) (fun hc4 => ?_) (fun hc4 => ?_)
  · exact absurd rfl hc4
  refine W.iconst C (x := (0 : Int32)) d6_7 rfl rfl ?_
  refine W.retZ C (w := (0 : Int32)) (by simp) d6_8 (by decide) (by decide) (by decide) (fun _ _ _ _ q => q) ?_
  exact ⟨rfl, rfl⟩
set_option maxRecDepth 65536 in
set_option maxHeartbeats 40000000 in
theorem rmPs (l : Launch) (Z : State) (a0 : Array Value) (hw : ∀ d ∈ tables_1, d.before a0 Z = true) (ws : List Jvm.Cond) (o0 o1 : Addr) (h0 : Heap) (n0 : Nat) (Z0 : n0 ≤ h0.size) (E1 : Exa Z h0 o1 "java/lang/String") :
    W.Con l Z (⟨"com/example/useful_few/usefulfew/engine/Post", "equals", "(Ljava/lang/Object;)Z"⟩ : MethodName) prog_19_method_6_code 3 (some .boolean) ws ({ frames := 0, cells := 0, slots := 0, locals := 0 } : Room) ({ frames := 0, cells := 0, slots := 0, locals := 0 } : Room).cells ({ frames := 0, cells := 0, slots := 0, locals := 0 } : Room).slots #[(.ref o0), (.ref o1)] h0 n0 (fun v h => v = some (.int 0) ∧ h0 = h) := by
  refine W.enter (plainFor_of_name pn_4) Z0 ?_
  intro p e s m below meth c C hnm hsh
  have C : W.Cx p s m meth c Z n0 "com/example/useful_few/usefulfew/engine/Post" prog_19_method_6_code 3 (some .boolean) := C
  refine W.Go.castF (ef_6s m o0 o1) ?_
  refine W.aloadN C d6_0 rfl rfl rfl ?_
  refine W.instF C (hw _ (List.mem_of_getElem? (i := 46) rfl)) E1 (W.ns_no (hw _ (List.mem_of_getElem? (i := 59) rfl)) (hw _ (List.mem_of_getElem? (i := 27) rfl)) (NS.step (hw _ (List.mem_of_getElem? (i := 59) rfl)) (W.ns_root (hw _ (List.mem_of_getElem? (i := 60) rfl)) (hw _ (List.mem_of_getElem? (i := 27) rfl)) (by decide)) (by decide)) (by decide)) d6_1 rfl ?_
  refine W.ifc C (pc' := 9) (pn := 7) d6_4 (by decide) rfl rfl (W.q_ne (0 : Int32) (0 : Int32)) (fun hc4 => ?_) (fun hc4 => ?_)
  · exact absurd rfl hc4
  refine W.iconst C (x := (0 : Int32)) d6_7 rfl rfl ?_
  refine W.retZ C (w := (0 : Int32)) (by simp) d6_8 (by decide) (by decide) (by decide) (fun _ _ _ _ q => q) ?_
  exact ⟨rfl, rfl⟩
set_option maxRecDepth 65536 in
set_option maxHeartbeats 40000000 in
theorem rm0 (l : Launch) (Z : State) (a0 : Array Value) (hw : ∀ d ∈ tables_1, d.before a0 Z = true) (hEL : EW Z a0 consts_1) (hSA : ∀ a ∈ Bundle.stringAtoms, a.before a0 Z = true) (ws : List Jvm.Cond) (p0 p1 : Int32) (q2 : Int64) (p3 p4 : Int32) (q5 : Int64) (cs : Int32) (h0 : Heap) (n0 : Nat) (Z0 : n0 ≤ h0.size) (SC : Sta Z Z.heap "java/lang/String" "COMPACT_STRINGS" "Z" (.int cs)) (hcs : ¬ cs = 0) (OO : Old Z n0 h0) :
    W.ConL l Z consts_1 x code maxLocals ret ws room_1 32 1152 #[(.int p0), (.int p1), (.long q2), (.int p3), (.int p4), (.long q5)] h0 n0 [] (fun v _ => v = some (.int 1)) := by
  refine W.enterL (plainFor_of_name pn_3) Z0 hEL hSA ?_
  intro p e s0 m below meth c C hnm hsh LT SF0
  have C : W.Cx p (s0.setVm s0.vm) m meth c Z n0 "com/example/useful_few/usefulfew/engine/PostEqualsPinLaw" code 29 (some .boolean) := C
  refine W.Go.castF (ef_0 m p0 p1 q2 p3 p4 q5) ?_
  refine W.iload C at_0 rfl rfl ?_
  refine W.iconst C (x := (3 : Int32)) at_2 rfl rfl ?_
  obtain ⟨v1, hv1⟩ : ∃ z__, z__ = (p4 &&& (3 : Int32)) := ⟨_, rfl⟩
  have fv1 := c_mask p4 (3 : Int32) 2 (by decide) (by decide)
  rw [← hv1] at fv1
  try simp only [Int32.reduceToInt, Int64.reduceToInt, Nat.reducePow, Int.reducePow, Int.cast_ofNat_Int] at fv1
  have rv1 := rng32 v1
  refine W.iand C at_3 rfl hv1.symm ?_
  refine W.iconst C (x := (3 : Int32)) at_4 rfl rfl ?_
  obtain ⟨v2, hv2⟩ : ∃ z__, z__ = (v1 % (3 : Int32)) := ⟨_, rfl⟩
  have fv2 := c_irem v1 (3 : Int32) 3 rfl
  rw [← hv2] at fv2
  try simp only [Int32.reduceToInt, Int64.reduceToInt, Nat.reducePow, Int.reducePow, Int.cast_ofNat_Int] at fv2
  have rv2 := rng32 v2
  refine W.irem C at_5 rfl (by decide) hv2.symm ?_
  refine W.istore C (Ls' := #[.val (.int p0), .val (.int p1), .val (.long q2), .second, .val (.int p3), .val (.int p4), .val (.long q5), .second, .val (.int v2), .unset, .unset, .unset, .unset, .unset, .unset, .unset, .unset, .unset, .unset, .unset, .unset, .unset, .unset, .unset, .unset, .unset, .unset, .unset, .unset]) at_6 rfl rfl ?_
  refine W.iloadN C at_8 rfl rfl ?_
  refine W.sipush C (x := (255 : Int32)) at_9 rfl rfl ?_
  obtain ⟨v3, hv3⟩ : ∃ z__, z__ = (p0 &&& (255 : Int32)) := ⟨_, rfl⟩
  have fv3 := c_mask p0 (255 : Int32) 8 (by decide) (by decide)
  rw [← hv3] at fv3
  try simp only [Int32.reduceToInt, Int64.reduceToInt, Nat.reducePow, Int.reducePow, Int.cast_ofNat_Int] at fv3
  have rv3 := rng32 v3
  refine W.iand C at_12 rfl hv3.symm ?_
  obtain ⟨v4, hv4⟩ : ∃ z__, z__ = ((v3).toUInt32.toUInt16.toUInt32.toInt32) := ⟨_, rfl⟩
  have fv4 := c_i2c v3
  rw [← hv4] at fv4
  try simp only [Int32.reduceToInt, Int64.reduceToInt, Nat.reducePow, Int.reducePow, Int.cast_ofNat_Int] at fv4
  have rv4 := rng32 v4
  refine W.i2c C at_13 rfl hv4.symm ?_
  refine W.istore C (Ls' := #[.val (.int p0), .val (.int p1), .val (.long q2), .second, .val (.int p3), .val (.int p4), .val (.long q5), .second, .val (.int v2), .val (.int v4), .unset, .unset, .unset, .unset, .unset, .unset, .unset, .unset, .unset, .unset, .unset, .unset, .unset, .unset, .unset, .unset, .unset, .unset, .unset]) at_14 rfl rfl ?_
  refine W.iloadN C at_16 rfl rfl ?_
  refine W.bipush C (x := (8 : Int32)) at_17 rfl rfl ?_
  obtain ⟨v5, hv5⟩ : ∃ z__, z__ = (((p0).toUInt32 >>> ((8 : Int32) &&& 31).toUInt32).toInt32) := ⟨_, rfl⟩
  have fv5 := c_iushr p0 (8 : Int32) 8 rfl (by decide)
  rw [← hv5] at fv5
  try simp only [Int32.reduceToInt, Int64.reduceToInt, Nat.reducePow, Int.reducePow, Int.cast_ofNat_Int] at fv5
  have rv5 := rng32 v5
  refine W.iushr C at_19 rfl hv5.symm ?_
  refine W.sipush C (x := (255 : Int32)) at_20 rfl rfl ?_
  obtain ⟨v6, hv6⟩ : ∃ z__, z__ = (v5 &&& (255 : Int32)) := ⟨_, rfl⟩
  have fv6 := c_mask v5 (255 : Int32) 8 (by decide) (by decide)
  rw [← hv6] at fv6
  try simp only [Int32.reduceToInt, Int64.reduceToInt, Nat.reducePow, Int.reducePow, Int.cast_ofNat_Int] at fv6
  have rv6 := rng32 v6
  refine W.iand C at_23 rfl hv6.symm ?_
  obtain ⟨v7, hv7⟩ : ∃ z__, z__ = ((v6).toUInt32.toUInt16.toUInt32.toInt32) := ⟨_, rfl⟩
  have fv7 := c_i2c v6
  rw [← hv7] at fv7
  try simp only [Int32.reduceToInt, Int64.reduceToInt, Nat.reducePow, Int.reducePow, Int.cast_ofNat_Int] at fv7
  have rv7 := rng32 v7
  refine W.i2c C at_24 rfl hv7.symm ?_
  refine W.istore C (Ls' := #[.val (.int p0), .val (.int p1), .val (.long q2), .second, .val (.int p3), .val (.int p4), .val (.long q5), .second, .val (.int v2), .val (.int v4), .val (.int v7), .unset, .unset, .unset, .unset, .unset, .unset, .unset, .unset, .unset, .unset, .unset, .unset, .unset, .unset, .unset, .unset, .unset, .unset]) at_25 rfl rfl ?_
  refine W.iload C at_27 rfl rfl ?_
  refine W.iconst C (x := (2 : Int32)) at_29 rfl rfl ?_
  obtain ⟨v8, hv8⟩ : ∃ z__, z__ = (((p4).toUInt32 >>> ((2 : Int32) &&& 31).toUInt32).toInt32) := ⟨_, rfl⟩
  have fv8 := c_iushr p4 (2 : Int32) 2 rfl (by decide)
  rw [← hv8] at fv8
  try simp only [Int32.reduceToInt, Int64.reduceToInt, Nat.reducePow, Int.reducePow, Int.cast_ofNat_Int] at fv8
  have rv8 := rng32 v8
  refine W.iushr C at_30 rfl hv8.symm ?_
  refine W.iconst C (x := (3 : Int32)) at_31 rfl rfl ?_
  obtain ⟨v9, hv9⟩ : ∃ z__, z__ = (v8 &&& (3 : Int32)) := ⟨_, rfl⟩
  have fv9 := c_mask v8 (3 : Int32) 2 (by decide) (by decide)
  rw [← hv9] at fv9
  try simp only [Int32.reduceToInt, Int64.reduceToInt, Nat.reducePow, Int.reducePow, Int.cast_ofNat_Int] at fv9
  have rv9 := rng32 v9
  refine W.iand C at_32 rfl hv9.symm ?_
  refine W.iconst C (x := (3 : Int32)) at_33 rfl rfl ?_
  obtain ⟨v10, hv10⟩ : ∃ z__, z__ = (v9 % (3 : Int32)) := ⟨_, rfl⟩
  have fv10 := c_irem v9 (3 : Int32) 3 rfl
  rw [← hv10] at fv10
  try simp only [Int32.reduceToInt, Int64.reduceToInt, Nat.reducePow, Int.reducePow, Int.cast_ofNat_Int] at fv10
  have rv10 := rng32 v10
  refine W.irem C at_34 rfl (by decide) hv10.symm ?_
  refine W.istore C (Ls' := #[.val (.int p0), .val (.int p1), .val (.long q2), .second, .val (.int p3), .val (.int p4), .val (.long q5), .second, .val (.int v2), .val (.int v4), .val (.int v7), .val (.int v10), .unset, .unset, .unset, .unset, .unset, .unset, .unset, .unset, .unset, .unset, .unset, .unset, .unset, .unset, .unset, .unset, .unset]) at_35 rfl rfl ?_
  refine W.iloadN C at_37 rfl rfl ?_
  refine W.bipush C (x := (16 : Int32)) at_38 rfl rfl ?_
  obtain ⟨v11, hv11⟩ : ∃ z__, z__ = (((p0).toUInt32 >>> ((16 : Int32) &&& 31).toUInt32).toInt32) := ⟨_, rfl⟩
  have fv11 := c_iushr p0 (16 : Int32) 16 rfl (by decide)
  rw [← hv11] at fv11
  try simp only [Int32.reduceToInt, Int64.reduceToInt, Nat.reducePow, Int.reducePow, Int.cast_ofNat_Int] at fv11
  have rv11 := rng32 v11
  refine W.iushr C at_40 rfl hv11.symm ?_
  refine W.sipush C (x := (255 : Int32)) at_41 rfl rfl ?_
  obtain ⟨v12, hv12⟩ : ∃ z__, z__ = (v11 &&& (255 : Int32)) := ⟨_, rfl⟩
  have fv12 := c_mask v11 (255 : Int32) 8 (by decide) (by decide)
  rw [← hv12] at fv12
  try simp only [Int32.reduceToInt, Int64.reduceToInt, Nat.reducePow, Int.reducePow, Int.cast_ofNat_Int] at fv12
  have rv12 := rng32 v12
  refine W.iand C at_44 rfl hv12.symm ?_
  obtain ⟨v13, hv13⟩ : ∃ z__, z__ = ((v12).toUInt32.toUInt16.toUInt32.toInt32) := ⟨_, rfl⟩
  have fv13 := c_i2c v12
  rw [← hv13] at fv13
  try simp only [Int32.reduceToInt, Int64.reduceToInt, Nat.reducePow, Int.reducePow, Int.cast_ofNat_Int] at fv13
  have rv13 := rng32 v13
  refine W.i2c C at_45 rfl hv13.symm ?_
  refine W.istore C (Ls' := #[.val (.int p0), .val (.int p1), .val (.long q2), .second, .val (.int p3), .val (.int p4), .val (.long q5), .second, .val (.int v2), .val (.int v4), .val (.int v7), .val (.int v10), .val (.int v13), .unset, .unset, .unset, .unset, .unset, .unset, .unset, .unset, .unset, .unset, .unset, .unset, .unset, .unset, .unset, .unset]) at_46 rfl rfl ?_
  refine W.iloadN C at_48 rfl rfl ?_
  refine W.bipush C (x := (24 : Int32)) at_49 rfl rfl ?_
  obtain ⟨v14, hv14⟩ : ∃ z__, z__ = (((p0).toUInt32 >>> ((24 : Int32) &&& 31).toUInt32).toInt32) := ⟨_, rfl⟩
  have fv14 := c_iushr p0 (24 : Int32) 24 rfl (by decide)
  rw [← hv14] at fv14
  try simp only [Int32.reduceToInt, Int64.reduceToInt, Nat.reducePow, Int.reducePow, Int.cast_ofNat_Int] at fv14
  have rv14 := rng32 v14
  refine W.iushr C at_51 rfl hv14.symm ?_
  refine W.sipush C (x := (255 : Int32)) at_52 rfl rfl ?_
  obtain ⟨v15, hv15⟩ : ∃ z__, z__ = (v14 &&& (255 : Int32)) := ⟨_, rfl⟩
  have fv15 := c_mask v14 (255 : Int32) 8 (by decide) (by decide)
  rw [← hv15] at fv15
  try simp only [Int32.reduceToInt, Int64.reduceToInt, Nat.reducePow, Int.reducePow, Int.cast_ofNat_Int] at fv15
  have rv15 := rng32 v15
  refine W.iand C at_55 rfl hv15.symm ?_
  obtain ⟨v16, hv16⟩ : ∃ z__, z__ = ((v15).toUInt32.toUInt16.toUInt32.toInt32) := ⟨_, rfl⟩
  have fv16 := c_i2c v15
  rw [← hv16] at fv16
  try simp only [Int32.reduceToInt, Int64.reduceToInt, Nat.reducePow, Int.reducePow, Int.cast_ofNat_Int] at fv16
  have rv16 := rng32 v16
  refine W.i2c C at_56 rfl hv16.symm ?_
  refine W.istore C (Ls' := #[.val (.int p0), .val (.int p1), .val (.long q2), .second, .val (.int p3), .val (.int p4), .val (.long q5), .second, .val (.int v2), .val (.int v4), .val (.int v7), .val (.int v10), .val (.int v13), .val (.int v16), .unset, .unset, .unset, .unset, .unset, .unset, .unset, .unset, .unset, .unset, .unset, .unset, .unset, .unset, .unset]) at_57 rfl rfl ?_
  have r_v2 : 0 ≤ v2.toInt ∧ v2.toInt ≤ 2 := by omega
  have r_v4 : 0 ≤ v4.toInt ∧ v4.toInt ≤ 255 := by omega
  have r_v7 : 0 ≤ v7.toInt ∧ v7.toInt ≤ 255 := by omega
  have r_v10 : 0 ≤ v10.toInt ∧ v10.toInt ≤ 2 := by omega
  have r_v13 : 0 ≤ v13.toInt ∧ v13.toInt ≤ 255 := by omega
  have r_v16 : 0 ≤ v16.toInt ∧ v16.toInt ≤ 255 := by omega
  have J81 : ∀ (lb b1 b2 : Int32) (r_lb : 0 ≤ lb.toInt ∧ lb.toInt ≤ 2) (r_b1 : 0 ≤ b1.toInt ∧ b1.toInt ≤ 255) (r_b2 : 0 ≤ b2.toInt ∧ b2.toInt ≤ 255), W.Go p l e room_1 (s0.setVm s0.vm) m #[(.int p0), (.int p1), (.long q2), (.int p3), (.int p4), (.long q5)] below meth c (fun s₂ o L => CHr Z consts_1 s0.vm s0.heap s₂.vm s₂.heap ∧ ReturnedEndW s0 o s₂ L 32 1152) n0 (fun v _ => v = some (.int 1)) h0 (0) (0) (mkF m 81 #[.val (.int p0), .val (.int p1), .val (.long q2), .second, .val (.int p3), .val (.int p4), .val (.long q5), .second, .val (.int v2), .val (.int v4), .val (.int v7), .val (.int lb), .val (.int b1), .val (.int b2), .unset, .unset, .unset, .unset, .unset, .unset, .unset, .unset, .unset, .unset, .unset, .unset, .unset, .unset, .unset] []) := by
    intro lb b1 b2 r_lb r_b1 r_b2
    refine W.iload C at_81 rfl rfl ?_
    refine W.iload C at_83 rfl rfl ?_
    refine W.iload C at_85 rfl rfl ?_
    refine W.callSL C (y := (⟨"com/example/useful_few/usefulfew/engine/PostEqualsPinLaw", "mk", "(ICC)Ljava/lang/String;"⟩ : MethodName)) LT (hw _ (List.mem_of_getElem? (i := 0) rfl)) (hw _ (List.mem_of_getElem? (i := 1) rfl)) (hw _ (List.mem_of_getElem? (i := 2) rfl)) (hw _ (List.mem_of_getElem? (i := 3) rfl)) (by decide) (fun hz => rmM l Z a0 hw hEL hSA [] v2 v4 v7 cs h0 n0 hz (SC.ext OO.2) hcs r_v2 r_v4 r_v7) (fun x hx => absurd hx List.not_mem_nil) at_87 rfl rfl pd_11 rfl (argsL := [(.int v2), (.int v4), (.int v7)]) (rest := []) rfl (W := 0) rfl (by decide) (by decide) (by decide) (by decide) (k' := 6) (n' := 12) rfl rfl ?_
    rintro vm17 k17 h17 _ C LT17 SF17 ⟨r17, b17, kb17, rfl, g0_r17, sz_r17, K17, O17⟩
    show W.Go p l e _ _ m _ below meth c _ _ _ _ _ _ (mkF m 90 #[.val (.int p0), .val (.int p1), .val (.long q2), .second, .val (.int p3), .val (.int p4), .val (.long q5), .second, .val (.int v2), .val (.int v4), .val (.int v7), .val (.int lb), .val (.int b1), .val (.int b2), .unset, .unset, .unset, .unset, .unset, .unset, .unset, .unset, .unset, .unset, .unset, .unset, .unset, .unset, .unset] [(.ref r17)])
    refine W.astore C (Ls' := #[.val (.int p0), .val (.int p1), .val (.long q2), .second, .val (.int p3), .val (.int p4), .val (.long q5), .second, .val (.int v2), .val (.int v4), .val (.int v7), .val (.int lb), .val (.int b1), .val (.int b2), .val (.ref r17), .unset, .unset, .unset, .unset, .unset, .unset, .unset, .unset, .unset, .unset, .unset, .unset, .unset, .unset]) at_90 rfl rfl rfl ?_
    refine W.iload C at_92 rfl rfl ?_
    refine W.iload C at_94 rfl rfl ?_
    refine W.iload C at_96 rfl rfl ?_
    refine W.callSL C (y := (⟨"com/example/useful_few/usefulfew/engine/PostEqualsPinLaw", "mk", "(ICC)Ljava/lang/String;"⟩ : MethodName)) LT17 (hw _ (List.mem_of_getElem? (i := 0) rfl)) (hw _ (List.mem_of_getElem? (i := 1) rfl)) (hw _ (List.mem_of_getElem? (i := 2) rfl)) (hw _ (List.mem_of_getElem? (i := 3) rfl)) (by decide) (fun hz => rmM l Z a0 hw hEL hSA [] lb b1 b2 cs h17 n0 hz (SC.ext (OO.keep K17 all0).2) hcs r_lb r_b1 r_b2) (fun x hx => absurd hx List.not_mem_nil) at_98 rfl rfl pd_11 rfl (argsL := [(.int lb), (.int b1), (.int b2)]) (rest := []) rfl (W := 0) rfl (by decide) (by decide) (by decide) (by decide) (k' := 12) (n' := 24) rfl rfl ?_
    rintro vm18 k18 h18 _ C LT18 SF18 ⟨r18, b18, kb18, rfl, g0_r18, sz_r18, K18, O18⟩
    have ne_r17_r18 : r17 ≠ r18 := Nat.ne_of_lt (Nat.lt_of_lt_of_le O17.1.lt sz_r18)
    have ne_b17_r18 : b17 ≠ r18 := Nat.ne_of_lt (Nat.lt_of_lt_of_le O17.2.2.2.lt sz_r18)
    show W.Go p l e _ _ m _ below meth c _ _ _ _ _ _ (mkF m 101 #[.val (.int p0), .val (.int p1), .val (.long q2), .second, .val (.int p3), .val (.int p4), .val (.long q5), .second, .val (.int v2), .val (.int v4), .val (.int v7), .val (.int lb), .val (.int b1), .val (.int b2), .val (.ref r17), .unset, .unset, .unset, .unset, .unset, .unset, .unset, .unset, .unset, .unset, .unset, .unset, .unset, .unset] [(.ref r18)])
    refine W.astore C (Ls' := #[.val (.int p0), .val (.int p1), .val (.long q2), .second, .val (.int p3), .val (.int p4), .val (.long q5), .second, .val (.int v2), .val (.int v4), .val (.int v7), .val (.int lb), .val (.int b1), .val (.int b2), .val (.ref r17), .val (.ref r18), .unset, .unset, .unset, .unset, .unset, .unset, .unset, .unset, .unset, .unset, .unset, .unset, .unset]) at_101 rfl rfl rfl ?_
    have J233 : ∀ (c2 : Int32) (t2 : Int64) (m2 ss ex : Int32) (hex : ((ex = 1 ∧ (own_same v2 v4 v7 lb b1 b2 ∧ p1 = c2 ∧ q2 = t2 ∧ p3 = m2)) ∨ (ex = 0 ∧ ¬ (own_same v2 v4 v7 lb b1 b2 ∧ p1 = c2 ∧ q2 = t2 ∧ p3 = m2)))), W.Go p l e room_1 (s0.setVm vm18) m #[(.int p0), (.int p1), (.long q2), (.int p3), (.int p4), (.long q5)] below meth c (fun s₂ o L => CHr Z consts_1 s0.vm s0.heap s₂.vm s₂.heap ∧ ReturnedEndW s0 o s₂ L 32 1152) n0 (fun v _ => v = some (.int 1)) h18 (12) (24) (mkF m 233 #[.val (.int p0), .val (.int p1), .val (.long q2), .second, .val (.int p3), .val (.int p4), .val (.long q5), .second, .val (.int v2), .val (.int v4), .val (.int v7), .val (.int lb), .val (.int b1), .val (.int b2), .val (.ref r17), .val (.ref r18), .val (.int c2), .val (.long t2), .second, .val (.int m2), .val (.int ss), .val (.int ex), .unset, .unset, .unset, .unset, .unset, .unset, .unset] []) := by
      intro c2 t2 m2 ss ex hex
      refine W.new C (hw _ (List.mem_of_getElem? (i := 26) rfl)) (hw _ (List.mem_of_getElem? (i := 27) rfl)) (hw _ (List.mem_of_getElem? (i := 28) rfl)) at_233 rfl (by decide) (by decide) (k' := 13) (n' := 28) rfl rfl ?_
      intro h19 b19 gb19 g0_b19 E19 Ab19 Db19
      have ne_r17_b19 : r17 ≠ b19 := Nat.ne_of_lt (by rw [gb19]; exact (O17.1.keep K18).lt)
      have ne_b17_b19 : b17 ≠ b19 := Nat.ne_of_lt (by rw [gb19]; exact (O17.2.2.2.keep K18 nin0).lt)
      have ne_r18_b19 : r18 ≠ b19 := Nat.ne_of_lt (by rw [gb19]; exact O18.1.lt)
      have ne_b18_b19 : b18 ≠ b19 := Nat.ne_of_lt (by rw [gb19]; exact O18.2.2.2.lt)
      have sn_b19 := LT18.sext E19 (Safe.new (Nat.le_of_eq gb19.symm))
      have Fb19_collection : Fld Z h19 b19 "com/example/useful_few/usefulfew/engine/Post" "collection" "Ljava/lang/String;" .null := Db19 (Or.inr (hw _ (List.mem_of_getElem? (i := 34) rfl))) (ty := (.object "java/lang/String")) (by decide)
      have Fb19_cdf : Fld Z h19 b19 "com/example/useful_few/usefulfew/engine/Post" "cdf" "I" (.int (0 : Int32)) := Db19 (Or.inr (hw _ (List.mem_of_getElem? (i := 36) rfl))) (ty := .int) (by decide)
      have Fb19_ctf : Fld Z h19 b19 "com/example/useful_few/usefulfew/engine/Post" "ctf" "J" (.long (0 : Int64)) := Db19 (Or.inr (hw _ (List.mem_of_getElem? (i := 38) rfl))) (ty := .long) (by decide)
      have Fb19_ctfmax : Fld Z h19 b19 "com/example/useful_few/usefulfew/engine/Post" "ctfmax" "I" (.int (0 : Int32)) := Db19 (Or.inr (hw _ (List.mem_of_getElem? (i := 40) rfl))) (ty := .int) (by decide)
      refine W.dup C at_236 rfl rfl ?_
      refine W.aload C at_237 rfl rfl rfl ?_
      refine W.iloadN C at_239 rfl rfl ?_
      refine W.lloadN C at_240 rfl rfl ?_
      refine W.iload C at_241 rfl rfl ?_
      refine W.callSp C (y := (⟨"com/example/useful_few/usefulfew/engine/Post", "<init>", "(Ljava/lang/String;IJI)V"⟩ : MethodName)) (a := b19) rfl (hw _ (List.mem_of_getElem? (i := 29) rfl)) (hw _ (List.mem_of_getElem? (i := 30) rfl)) (hw _ (List.mem_of_getElem? (i := 28) rfl)) (hw _ (List.mem_of_getElem? (i := 31) rfl)) (by decide) (fun hz => rm5 l Z a0 hw [] b19 r17 p1 q2 p3 h19 n0 hz ⟨Ab19, Fb19_collection, Fb19_cdf, Fb19_ctf, Fb19_ctfmax⟩ g0_b19) at_243 rfl rfl pd_12 rfl (argsL := [(.ref r17), (.int p1), (.long q2), (.int p3)]) (rest := [(.ref b19)]) rfl (W := 1) rfl (by decide) (by decide) (by decide) (by decide) (k' := 13) (n' := 28) rfl rfl ?_
      rintro h20 _ ⟨rfl, K20, O20⟩
      have lk21 := (LT18.ext E19).keep K20 (allS sn_b19 all0)
      have sk22 := (LT18.ext E19).skeep K20 (allS sn_b19 all0) sn_b19
      show W.Go p l e _ _ m _ below meth c _ _ _ _ _ _ (mkF m 246 #[.val (.int p0), .val (.int p1), .val (.long q2), .second, .val (.int p3), .val (.int p4), .val (.long q5), .second, .val (.int v2), .val (.int v4), .val (.int v7), .val (.int lb), .val (.int b1), .val (.int b2), .val (.ref r17), .val (.ref r18), .val (.int c2), .val (.long t2), .second, .val (.int m2), .val (.int ss), .val (.int ex), .unset, .unset, .unset, .unset, .unset, .unset, .unset] [(.ref b19)])
      refine W.astore C (Ls' := #[.val (.int p0), .val (.int p1), .val (.long q2), .second, .val (.int p3), .val (.int p4), .val (.long q5), .second, .val (.int v2), .val (.int v4), .val (.int v7), .val (.int lb), .val (.int b1), .val (.int b2), .val (.ref r17), .val (.ref r18), .val (.int c2), .val (.long t2), .second, .val (.int m2), .val (.int ss), .val (.int ex), .val (.ref b19), .unset, .unset, .unset, .unset, .unset, .unset]) at_246 rfl rfl rfl ?_
      refine W.new C (hw _ (List.mem_of_getElem? (i := 26) rfl)) (hw _ (List.mem_of_getElem? (i := 27) rfl)) (hw _ (List.mem_of_getElem? (i := 28) rfl)) at_248 rfl (by decide) (by decide) (k' := 14) (n' := 32) rfl rfl ?_
      intro h23 b23 gb23 g0_b23 E23 Ab23 Db23
      have ne_r17_b23 : r17 ≠ b23 := Nat.ne_of_lt (by rw [gb23]; exact (((O17.1.keep K18).ext E19).keep K20).lt)
      have ne_b17_b23 : b17 ≠ b23 := Nat.ne_of_lt (by rw [gb23]; exact (((O17.2.2.2.keep K18 nin0).ext E19).keep K20 (ninS ne_b17_b19 nin0)).lt)
      have ne_r18_b23 : r18 ≠ b23 := Nat.ne_of_lt (by rw [gb23]; exact ((O18.1.ext E19).keep K20).lt)
      have ne_b18_b23 : b18 ≠ b23 := Nat.ne_of_lt (by rw [gb23]; exact ((O18.2.2.2.ext E19).keep K20 (ninS ne_b18_b19 nin0)).lt)
      have ne_b19_b23 : b19 ≠ b23 := Nat.ne_of_lt (by rw [gb23]; exact O20.1.lt)
      have sn_b23 := lk21.sext E23 (Safe.new (Nat.le_of_eq gb23.symm))
      have sx24 := lk21.sext E23 sk22
      have Fb23_collection : Fld Z h23 b23 "com/example/useful_few/usefulfew/engine/Post" "collection" "Ljava/lang/String;" .null := Db23 (Or.inr (hw _ (List.mem_of_getElem? (i := 34) rfl))) (ty := (.object "java/lang/String")) (by decide)
      have Fb23_cdf : Fld Z h23 b23 "com/example/useful_few/usefulfew/engine/Post" "cdf" "I" (.int (0 : Int32)) := Db23 (Or.inr (hw _ (List.mem_of_getElem? (i := 36) rfl))) (ty := .int) (by decide)
      have Fb23_ctf : Fld Z h23 b23 "com/example/useful_few/usefulfew/engine/Post" "ctf" "J" (.long (0 : Int64)) := Db23 (Or.inr (hw _ (List.mem_of_getElem? (i := 38) rfl))) (ty := .long) (by decide)
      have Fb23_ctfmax : Fld Z h23 b23 "com/example/useful_few/usefulfew/engine/Post" "ctfmax" "I" (.int (0 : Int32)) := Db23 (Or.inr (hw _ (List.mem_of_getElem? (i := 40) rfl))) (ty := .int) (by decide)
      refine W.dup C at_251 rfl rfl ?_
      refine W.aload C at_252 rfl rfl rfl ?_
      refine W.iload C at_254 rfl rfl ?_
      refine W.lload C at_256 rfl rfl ?_
      refine W.iload C at_258 rfl rfl ?_
      refine W.callSp C (y := (⟨"com/example/useful_few/usefulfew/engine/Post", "<init>", "(Ljava/lang/String;IJI)V"⟩ : MethodName)) (a := b23) rfl (hw _ (List.mem_of_getElem? (i := 29) rfl)) (hw _ (List.mem_of_getElem? (i := 30) rfl)) (hw _ (List.mem_of_getElem? (i := 28) rfl)) (hw _ (List.mem_of_getElem? (i := 31) rfl)) (by decide) (fun hz => rm5 l Z a0 hw [] b23 r18 c2 t2 m2 h23 n0 hz ⟨Ab23, Fb23_collection, Fb23_cdf, Fb23_ctf, Fb23_ctfmax⟩ g0_b23) at_260 rfl rfl pd_12 rfl (argsL := [(.ref r18), (.int c2), (.long t2), (.int m2)]) (rest := [(.ref b23)]) rfl (W := 1) rfl (by decide) (by decide) (by decide) (by decide) (k' := 14) (n' := 32) rfl rfl ?_
      rintro h25 _ ⟨rfl, K25, O25⟩
      have lk26 := (lk21.ext E23).keep K25 (allS sn_b23 all0)
      have sk27 := (lk21.ext E23).skeep K25 (allS sn_b23 all0) sx24
      have sk28 := (lk21.ext E23).skeep K25 (allS sn_b23 all0) sn_b23
      show W.Go p l e _ _ m _ below meth c _ _ _ _ _ _ (mkF m 263 #[.val (.int p0), .val (.int p1), .val (.long q2), .second, .val (.int p3), .val (.int p4), .val (.long q5), .second, .val (.int v2), .val (.int v4), .val (.int v7), .val (.int lb), .val (.int b1), .val (.int b2), .val (.ref r17), .val (.ref r18), .val (.int c2), .val (.long t2), .second, .val (.int m2), .val (.int ss), .val (.int ex), .val (.ref b19), .unset, .unset, .unset, .unset, .unset, .unset] [(.ref b23)])
      refine W.astore C (Ls' := #[.val (.int p0), .val (.int p1), .val (.long q2), .second, .val (.int p3), .val (.int p4), .val (.long q5), .second, .val (.int v2), .val (.int v4), .val (.int v7), .val (.int lb), .val (.int b1), .val (.int b2), .val (.ref r17), .val (.ref r18), .val (.int c2), .val (.long t2), .second, .val (.int m2), .val (.int ss), .val (.int ex), .val (.ref b19), .val (.ref b23), .unset, .unset, .unset, .unset, .unset]) at_263 rfl rfl rfl ?_
      refine W.aload C at_265 rfl rfl rfl ?_
      refine W.aload C at_267 rfl rfl rfl ?_
      refine W.callV C (y := (⟨"com/example/useful_few/usefulfew/engine/Post", "equals", "(Ljava/lang/Object;)Z"⟩ : MethodName)) (a := b19) (hw _ (List.mem_of_getElem? (i := 41) rfl)) (hw _ (List.mem_of_getElem? (i := 42) rfl)) (W.nf_sel C (hw _ (List.mem_of_getElem? (i := 44) rfl))) (hw _ (List.mem_of_getElem? (i := 44) rfl)) (hw _ (List.mem_of_getElem? (i := 43) rfl)) (hw _ (List.mem_of_getElem? (i := 28) rfl)) (hw _ (List.mem_of_getElem? (i := 45) rfl)) (by decide) ((O20.1.ext E23).keep K25) (fun hz => rmPe l Z a0 hw [] b19 b23 r17 r18 b17 b18 kb17 kb18 v2 lb p1 c2 p3 m2 cs q2 t2 (own_bs v2 v4 v7) (own_bs lb b1 b2) h25 n0 hz (SC.ext ((((((OO.keep K17 all0).keep K18 all0).ext E19).keep K20 (allS g0_b19 all0)).ext E23).keep K25 (allS g0_b23 all0)).2) hcs ⟨((O20.1.ext E23).keep K25), ((O20.2.1.ext E23).keep K25 (ninS ne_b19_b23 nin0)), ((O20.2.2.1.ext E23).keep K25 (ninS ne_b19_b23 nin0)), ((O20.2.2.2.1.ext E23).keep K25 (ninS ne_b19_b23 nin0)), ((O20.2.2.2.2.ext E23).keep K25 (ninS ne_b19_b23 nin0))⟩ ⟨O25.1, O25.2.1, O25.2.2.1, O25.2.2.2.1, O25.2.2.2.2⟩ ⟨(((((O17.1.keep K18).ext E19).keep K20).ext E23).keep K25), (((((O17.2.1.keep K18 nin0).ext E19).keep K20 (ninS ne_r17_b19 nin0)).ext E23).keep K25 (ninS ne_r17_b23 nin0)), (((((O17.2.2.1.keep K18 nin0).ext E19).keep K20 (ninS ne_r17_b19 nin0)).ext E23).keep K25 (ninS ne_r17_b23 nin0)), (((((O17.2.2.2.keep K18 nin0).ext E19).keep K20 (ninS ne_b17_b19 nin0)).ext E23).keep K25 (ninS ne_b17_b23 nin0))⟩ ⟨((((O18.1.ext E19).keep K20).ext E23).keep K25), ((((O18.2.1.ext E19).keep K20 (ninS ne_r18_b19 nin0)).ext E23).keep K25 (ninS ne_r18_b23 nin0)), ((((O18.2.2.1.ext E19).keep K20 (ninS ne_r18_b19 nin0)).ext E23).keep K25 (ninS ne_r18_b23 nin0)), ((((O18.2.2.2.ext E19).keep K20 (ninS ne_b18_b19 nin0)).ext E23).keep K25 (ninS ne_b18_b23 nin0))⟩ (own_bsl _ _ _ r_v2) (own_bsl _ _ _ r_lb) r_v2.1 r_lb.1 (own_bsi _ _ _) (own_bsi _ _ _) (fun q => absurd q ne_r17_r18)) at_269 rfl rfl pd_10 rfl (argsL := [(.ref b23)]) (rest := []) rfl (W := 0) rfl (by decide) (by decide) (by decide) (by decide) (k' := 14) (n' := 32) rfl rfl ?_
      rintro h29 _ ⟨⟨wpq, rfl, gpq⟩, rfl⟩
      show W.Go p l e _ _ m _ below meth c _ _ _ _ _ _ (mkF m 272 #[.val (.int p0), .val (.int p1), .val (.long q2), .second, .val (.int p3), .val (.int p4), .val (.long q5), .second, .val (.int v2), .val (.int v4), .val (.int v7), .val (.int lb), .val (.int b1), .val (.int b2), .val (.ref r17), .val (.ref r18), .val (.int c2), .val (.long t2), .second, .val (.int m2), .val (.int ss), .val (.int ex), .val (.ref b19), .val (.ref b23), .unset, .unset, .unset, .unset, .unset] [(.int wpq)])
      refine W.istore C (Ls' := #[.val (.int p0), .val (.int p1), .val (.long q2), .second, .val (.int p3), .val (.int p4), .val (.long q5), .second, .val (.int v2), .val (.int v4), .val (.int v7), .val (.int lb), .val (.int b1), .val (.int b2), .val (.ref r17), .val (.ref r18), .val (.int c2), .val (.long t2), .second, .val (.int m2), .val (.int ss), .val (.int ex), .val (.ref b19), .val (.ref b23), .val (.int wpq), .unset, .unset, .unset, .unset]) at_272 rfl rfl ?_
      refine W.aload C at_274 rfl rfl rfl ?_
      refine W.aload C at_276 rfl rfl rfl ?_
      refine W.callV C (y := (⟨"com/example/useful_few/usefulfew/engine/Post", "equals", "(Ljava/lang/Object;)Z"⟩ : MethodName)) (a := b23) (hw _ (List.mem_of_getElem? (i := 41) rfl)) (hw _ (List.mem_of_getElem? (i := 42) rfl)) (W.nf_sel C (hw _ (List.mem_of_getElem? (i := 44) rfl))) (hw _ (List.mem_of_getElem? (i := 44) rfl)) (hw _ (List.mem_of_getElem? (i := 43) rfl)) (hw _ (List.mem_of_getElem? (i := 28) rfl)) (hw _ (List.mem_of_getElem? (i := 45) rfl)) (by decide) O25.1 (fun hz => rmPe l Z a0 hw [] b23 b19 r18 r17 b18 b17 kb18 kb17 lb v2 c2 p1 m2 p3 cs t2 q2 (own_bs lb b1 b2) (own_bs v2 v4 v7) h25 n0 hz (SC.ext ((((((OO.keep K17 all0).keep K18 all0).ext E19).keep K20 (allS g0_b19 all0)).ext E23).keep K25 (allS g0_b23 all0)).2) hcs ⟨O25.1, O25.2.1, O25.2.2.1, O25.2.2.2.1, O25.2.2.2.2⟩ ⟨((O20.1.ext E23).keep K25), ((O20.2.1.ext E23).keep K25 (ninS ne_b19_b23 nin0)), ((O20.2.2.1.ext E23).keep K25 (ninS ne_b19_b23 nin0)), ((O20.2.2.2.1.ext E23).keep K25 (ninS ne_b19_b23 nin0)), ((O20.2.2.2.2.ext E23).keep K25 (ninS ne_b19_b23 nin0))⟩ ⟨((((O18.1.ext E19).keep K20).ext E23).keep K25), ((((O18.2.1.ext E19).keep K20 (ninS ne_r18_b19 nin0)).ext E23).keep K25 (ninS ne_r18_b23 nin0)), ((((O18.2.2.1.ext E19).keep K20 (ninS ne_r18_b19 nin0)).ext E23).keep K25 (ninS ne_r18_b23 nin0)), ((((O18.2.2.2.ext E19).keep K20 (ninS ne_b18_b19 nin0)).ext E23).keep K25 (ninS ne_b18_b23 nin0))⟩ ⟨(((((O17.1.keep K18).ext E19).keep K20).ext E23).keep K25), (((((O17.2.1.keep K18 nin0).ext E19).keep K20 (ninS ne_r17_b19 nin0)).ext E23).keep K25 (ninS ne_r17_b23 nin0)), (((((O17.2.2.1.keep K18 nin0).ext E19).keep K20 (ninS ne_r17_b19 nin0)).ext E23).keep K25 (ninS ne_r17_b23 nin0)), (((((O17.2.2.2.keep K18 nin0).ext E19).keep K20 (ninS ne_b17_b19 nin0)).ext E23).keep K25 (ninS ne_b17_b23 nin0))⟩ (own_bsl _ _ _ r_lb) (own_bsl _ _ _ r_v2) r_lb.1 r_v2.1 (own_bsi _ _ _) (own_bsi _ _ _) (fun q => absurd q (Ne.symm ne_r17_r18))) at_278 rfl rfl pd_10 rfl (argsL := [(.ref b19)]) (rest := []) rfl (W := 0) rfl (by decide) (by decide) (by decide) (by decide) (k' := 14) (n' := 32) rfl rfl ?_
      rintro h30 _ ⟨⟨wqp, rfl, gqp⟩, rfl⟩
      show W.Go p l e _ _ m _ below meth c _ _ _ _ _ _ (mkF m 281 #[.val (.int p0), .val (.int p1), .val (.long q2), .second, .val (.int p3), .val (.int p4), .val (.long q5), .second, .val (.int v2), .val (.int v4), .val (.int v7), .val (.int lb), .val (.int b1), .val (.int b2), .val (.ref r17), .val (.ref r18), .val (.int c2), .val (.long t2), .second, .val (.int m2), .val (.int ss), .val (.int ex), .val (.ref b19), .val (.ref b23), .val (.int wpq), .unset, .unset, .unset, .unset] [(.int wqp)])
      refine W.istore C (Ls' := #[.val (.int p0), .val (.int p1), .val (.long q2), .second, .val (.int p3), .val (.int p4), .val (.long q5), .second, .val (.int v2), .val (.int v4), .val (.int v7), .val (.int lb), .val (.int b1), .val (.int b2), .val (.ref r17), .val (.ref r18), .val (.int c2), .val (.long t2), .second, .val (.int m2), .val (.int ss), .val (.int ex), .val (.ref b19), .val (.ref b23), .val (.int wpq), .val (.int wqp), .unset, .unset, .unset]) at_281 rfl rfl ?_
      refine W.aload C at_283 rfl rfl rfl ?_
      refine W.aload C at_285 rfl rfl rfl ?_
      refine W.callV C (y := (⟨"com/example/useful_few/usefulfew/engine/Post", "equals", "(Ljava/lang/Object;)Z"⟩ : MethodName)) (a := b19) (hw _ (List.mem_of_getElem? (i := 41) rfl)) (hw _ (List.mem_of_getElem? (i := 42) rfl)) (W.nf_sel C (hw _ (List.mem_of_getElem? (i := 44) rfl))) (hw _ (List.mem_of_getElem? (i := 44) rfl)) (hw _ (List.mem_of_getElem? (i := 43) rfl)) (hw _ (List.mem_of_getElem? (i := 28) rfl)) (hw _ (List.mem_of_getElem? (i := 45) rfl)) (by decide) ((O20.1.ext E23).keep K25) (fun hz => rmPe l Z a0 hw [] b19 b19 r17 r17 b17 b17 kb17 kb17 v2 v2 p1 p1 p3 p3 cs q2 q2 (own_bs v2 v4 v7) (own_bs v2 v4 v7) h25 n0 hz (SC.ext ((((((OO.keep K17 all0).keep K18 all0).ext E19).keep K20 (allS g0_b19 all0)).ext E23).keep K25 (allS g0_b23 all0)).2) hcs ⟨((O20.1.ext E23).keep K25), ((O20.2.1.ext E23).keep K25 (ninS ne_b19_b23 nin0)), ((O20.2.2.1.ext E23).keep K25 (ninS ne_b19_b23 nin0)), ((O20.2.2.2.1.ext E23).keep K25 (ninS ne_b19_b23 nin0)), ((O20.2.2.2.2.ext E23).keep K25 (ninS ne_b19_b23 nin0))⟩ ⟨((O20.1.ext E23).keep K25), ((O20.2.1.ext E23).keep K25 (ninS ne_b19_b23 nin0)), ((O20.2.2.1.ext E23).keep K25 (ninS ne_b19_b23 nin0)), ((O20.2.2.2.1.ext E23).keep K25 (ninS ne_b19_b23 nin0)), ((O20.2.2.2.2.ext E23).keep K25 (ninS ne_b19_b23 nin0))⟩ ⟨(((((O17.1.keep K18).ext E19).keep K20).ext E23).keep K25), (((((O17.2.1.keep K18 nin0).ext E19).keep K20 (ninS ne_r17_b19 nin0)).ext E23).keep K25 (ninS ne_r17_b23 nin0)), (((((O17.2.2.1.keep K18 nin0).ext E19).keep K20 (ninS ne_r17_b19 nin0)).ext E23).keep K25 (ninS ne_r17_b23 nin0)), (((((O17.2.2.2.keep K18 nin0).ext E19).keep K20 (ninS ne_b17_b19 nin0)).ext E23).keep K25 (ninS ne_b17_b23 nin0))⟩ ⟨(((((O17.1.keep K18).ext E19).keep K20).ext E23).keep K25), (((((O17.2.1.keep K18 nin0).ext E19).keep K20 (ninS ne_r17_b19 nin0)).ext E23).keep K25 (ninS ne_r17_b23 nin0)), (((((O17.2.2.1.keep K18 nin0).ext E19).keep K20 (ninS ne_r17_b19 nin0)).ext E23).keep K25 (ninS ne_r17_b23 nin0)), (((((O17.2.2.2.keep K18 nin0).ext E19).keep K20 (ninS ne_b17_b19 nin0)).ext E23).keep K25 (ninS ne_b17_b23 nin0))⟩ (own_bsl _ _ _ r_v2) (own_bsl _ _ _ r_v2) r_v2.1 r_v2.1 (own_bsi _ _ _) (own_bsi _ _ _) (fun _ => rfl)) at_287 rfl rfl pd_10 rfl (argsL := [(.ref b19)]) (rest := []) rfl (W := 0) rfl (by decide) (by decide) (by decide) (by decide) (k' := 14) (n' := 32) rfl rfl ?_
      rintro h31 _ ⟨⟨wpp, rfl, gpp⟩, rfl⟩
      show W.Go p l e _ _ m _ below meth c _ _ _ _ _ _ (mkF m 290 #[.val (.int p0), .val (.int p1), .val (.long q2), .second, .val (.int p3), .val (.int p4), .val (.long q5), .second, .val (.int v2), .val (.int v4), .val (.int v7), .val (.int lb), .val (.int b1), .val (.int b2), .val (.ref r17), .val (.ref r18), .val (.int c2), .val (.long t2), .second, .val (.int m2), .val (.int ss), .val (.int ex), .val (.ref b19), .val (.ref b23), .val (.int wpq), .val (.int wqp), .unset, .unset, .unset] [(.int wpp)])
      refine W.istore C (Ls' := #[.val (.int p0), .val (.int p1), .val (.long q2), .second, .val (.int p3), .val (.int p4), .val (.long q5), .second, .val (.int v2), .val (.int v4), .val (.int v7), .val (.int lb), .val (.int b1), .val (.int b2), .val (.ref r17), .val (.ref r18), .val (.int c2), .val (.long t2), .second, .val (.int m2), .val (.int ss), .val (.int ex), .val (.ref b19), .val (.ref b23), .val (.int wpq), .val (.int wqp), .val (.int wpp), .unset, .unset]) at_290 rfl rfl ?_
      refine W.aload C at_292 rfl rfl rfl ?_
      refine W.aconst_null C at_294 rfl ?_
      refine W.callV C (y := (⟨"com/example/useful_few/usefulfew/engine/Post", "equals", "(Ljava/lang/Object;)Z"⟩ : MethodName)) (a := b19) (hw _ (List.mem_of_getElem? (i := 41) rfl)) (hw _ (List.mem_of_getElem? (i := 42) rfl)) (W.nf_sel C (hw _ (List.mem_of_getElem? (i := 44) rfl))) (hw _ (List.mem_of_getElem? (i := 44) rfl)) (hw _ (List.mem_of_getElem? (i := 43) rfl)) (hw _ (List.mem_of_getElem? (i := 28) rfl)) (hw _ (List.mem_of_getElem? (i := 45) rfl)) (by decide) ((O20.1.ext E23).keep K25) (fun hz => rmPn l Z a0 hw [] b19 h25 n0 hz) at_295 rfl rfl pd_10 rfl (argsL := [.null]) (rest := []) rfl (W := 0) rfl (by decide) (by decide) (by decide) (by decide) (k' := 14) (n' := 32) rfl rfl ?_
      rintro h32 _ ⟨rfl, rfl⟩
      show W.Go p l e _ _ m _ below meth c _ _ _ _ _ _ (mkF m 298 #[.val (.int p0), .val (.int p1), .val (.long q2), .second, .val (.int p3), .val (.int p4), .val (.long q5), .second, .val (.int v2), .val (.int v4), .val (.int v7), .val (.int lb), .val (.int b1), .val (.int b2), .val (.ref r17), .val (.ref r18), .val (.int c2), .val (.long t2), .second, .val (.int m2), .val (.int ss), .val (.int ex), .val (.ref b19), .val (.ref b23), .val (.int wpq), .val (.int wqp), .val (.int wpp), .unset, .unset] [(.int (0 : Int32))])
      refine W.istore C (Ls' := #[.val (.int p0), .val (.int p1), .val (.long q2), .second, .val (.int p3), .val (.int p4), .val (.long q5), .second, .val (.int v2), .val (.int v4), .val (.int v7), .val (.int lb), .val (.int b1), .val (.int b2), .val (.ref r17), .val (.ref r18), .val (.int c2), .val (.long t2), .second, .val (.int m2), .val (.int ss), .val (.int ex), .val (.ref b19), .val (.ref b23), .val (.int wpq), .val (.int wqp), .val (.int wpp), .val (.int (0 : Int32)), .unset]) at_298 rfl rfl ?_
      refine W.aload C at_300 rfl rfl rfl ?_
      refine W.aload C at_302 rfl rfl rfl ?_
      refine W.callV C (y := (⟨"com/example/useful_few/usefulfew/engine/Post", "equals", "(Ljava/lang/Object;)Z"⟩ : MethodName)) (a := b19) (hw _ (List.mem_of_getElem? (i := 41) rfl)) (hw _ (List.mem_of_getElem? (i := 42) rfl)) (W.nf_sel C (hw _ (List.mem_of_getElem? (i := 44) rfl))) (hw _ (List.mem_of_getElem? (i := 44) rfl)) (hw _ (List.mem_of_getElem? (i := 43) rfl)) (hw _ (List.mem_of_getElem? (i := 28) rfl)) (hw _ (List.mem_of_getElem? (i := 45) rfl)) (by decide) ((O20.1.ext E23).keep K25) (fun hz => rmPs l Z a0 hw [] b19 r17 h25 n0 hz (((((O17.1.keep K18).ext E19).keep K20).ext E23).keep K25)) at_304 rfl rfl pd_10 rfl (argsL := [(.ref r17)]) (rest := []) rfl (W := 0) rfl (by decide) (by decide) (by decide) (by decide) (k' := 14) (n' := 32) rfl rfl ?_
      rintro h33 _ ⟨rfl, rfl⟩
      show W.Go p l e _ _ m _ below meth c _ _ _ _ _ _ (mkF m 307 #[.val (.int p0), .val (.int p1), .val (.long q2), .second, .val (.int p3), .val (.int p4), .val (.long q5), .second, .val (.int v2), .val (.int v4), .val (.int v7), .val (.int lb), .val (.int b1), .val (.int b2), .val (.ref r17), .val (.ref r18), .val (.int c2), .val (.long t2), .second, .val (.int m2), .val (.int ss), .val (.int ex), .val (.ref b19), .val (.ref b23), .val (.int wpq), .val (.int wqp), .val (.int wpp), .val (.int (0 : Int32)), .unset] [(.int (0 : Int32))])
      refine W.istore C (Ls' := #[.val (.int p0), .val (.int p1), .val (.long q2), .second, .val (.int p3), .val (.int p4), .val (.long q5), .second, .val (.int v2), .val (.int v4), .val (.int v7), .val (.int lb), .val (.int b1), .val (.int b2), .val (.ref r17), .val (.ref r18), .val (.int c2), .val (.long t2), .second, .val (.int m2), .val (.int ss), .val (.int ex), .val (.ref b19), .val (.ref b23), .val (.int wpq), .val (.int wqp), .val (.int wpp), .val (.int (0 : Int32)), .val (.int (0 : Int32))]) at_307 rfl rfl ?_
      have hbs := own_bseq v2 v4 v7 lb b1 b2 r_v2 r_lb r_v4 r_v7 r_b1 r_b2
      refine W.iload C at_309 rfl rfl ?_
      refine W.iload C at_311 rfl rfl ?_
      refine W.icmp C (pc' := 342) (pn := 316) at_313 (by decide) rfl rfl (W.q_ne wpq ex) (fun hc313 => ?_) (fun hc313 => ?_)
      · exfalso
        rcases gpq with ⟨rfl, g⟩ | ⟨rfl, g⟩ <;> rcases hex with ⟨rfl, x⟩ | ⟨rfl, x⟩
        · exact hc313 rfl
        · exact x ⟨hbs.mp g.1, g.2⟩
        · exact g ⟨hbs.mpr x.1, x.2⟩
        · exact hc313 rfl
      refine W.iload C at_316 rfl rfl ?_
      refine W.iload C at_318 rfl rfl ?_
      refine W.icmp C (pc' := 342) (pn := 323) at_320 (by decide) rfl rfl (W.q_ne wqp ex) (fun hc320 => ?_) (fun hc320 => ?_)
      · exfalso
        rcases gqp with ⟨rfl, g⟩ | ⟨rfl, g⟩ <;> rcases hex with ⟨rfl, x⟩ | ⟨rfl, x⟩
        · exact hc320 rfl
        · exact x ⟨hbs.mp g.1.symm, g.2.1.symm, g.2.2.1.symm, g.2.2.2.symm⟩
        · exact g ⟨(hbs.mpr x.1).symm, x.2.1.symm, x.2.2.1.symm, x.2.2.2.symm⟩
        · exact hc320 rfl
      refine W.iload C at_323 rfl rfl ?_
      refine W.ifc C (pc' := 342) (pn := 328) at_325 (by decide) rfl rfl (W.q_eq wpp (0 : Int32)) (fun hc325 => ?_) (fun hc325 => ?_)
      · exfalso
        rcases gpp with ⟨rfl, g⟩ | ⟨rfl, g⟩
        · exact absurd hc325 (by decide)
        · exact g ⟨rfl, rfl, rfl, rfl⟩
      refine W.iload C at_328 rfl rfl ?_
      refine W.ifc C (pc' := 342) (pn := 333) at_330 (by decide) rfl rfl (W.q_ne (0 : Int32) (0 : Int32)) (fun hc330 => ?_) (fun hc330 => ?_)
      · exact absurd rfl hc330
      refine W.iload C at_333 rfl rfl ?_
      refine W.ifc C (pc' := 342) (pn := 338) at_335 (by decide) rfl rfl (W.q_ne (0 : Int32) (0 : Int32)) (fun hc335 => ?_) (fun hc335 => ?_)
      · exact absurd rfl hc335
      refine W.iconst C (x := (1 : Int32)) at_338 rfl rfl ?_
      refine W.goto C (pc' := 343) at_339 (by decide) rfl ?_
      refine W.retZ C (w := (1 : Int32)) (by simp) at_343 (by decide) (by decide) (by decide) (W.Lt.fin lk26) ?_
      rfl
    have J201 : ∀ (c2 : Int32) (t2 : Int64) (m2 ss : Int32) (hss : ((ss = 1 ∧ own_same v2 v4 v7 lb b1 b2) ∨ (ss = 0 ∧ ¬ own_same v2 v4 v7 lb b1 b2))), W.Go p l e room_1 (s0.setVm vm18) m #[(.int p0), (.int p1), (.long q2), (.int p3), (.int p4), (.long q5)] below meth c (fun s₂ o L => CHr Z consts_1 s0.vm s0.heap s₂.vm s₂.heap ∧ ReturnedEndW s0 o s₂ L 32 1152) n0 (fun v _ => v = some (.int 1)) h18 (12) (24) (mkF m 201 #[.val (.int p0), .val (.int p1), .val (.long q2), .second, .val (.int p3), .val (.int p4), .val (.long q5), .second, .val (.int v2), .val (.int v4), .val (.int v7), .val (.int lb), .val (.int b1), .val (.int b2), .val (.ref r17), .val (.ref r18), .val (.int c2), .val (.long t2), .second, .val (.int m2), .val (.int ss), .unset, .unset, .unset, .unset, .unset, .unset, .unset, .unset] []) := by
      intro c2 t2 m2 ss hss
      refine W.iload C at_201 rfl rfl ?_
      refine W.ifc C (pc' := 230) (pn := 206) at_203 (by decide) rfl rfl (W.q_eq ss (0 : Int32)) (fun hc203 => ?_) (fun hc203 => ?_)
      · refine W.iconst C (x := (0 : Int32)) at_230 rfl rfl ?_
        refine W.istore C (Ls' := #[.val (.int p0), .val (.int p1), .val (.long q2), .second, .val (.int p3), .val (.int p4), .val (.long q5), .second, .val (.int v2), .val (.int v4), .val (.int v7), .val (.int lb), .val (.int b1), .val (.int b2), .val (.ref r17), .val (.ref r18), .val (.int c2), .val (.long t2), .second, .val (.int m2), .val (.int ss), .val (.int (0 : Int32)), .unset, .unset, .unset, .unset, .unset, .unset, .unset]) at_231 rfl rfl ?_
        refine J233 c2 t2 m2 ss _ ?_
        rcases hss with ⟨g0, g⟩ | ⟨g0, g⟩
        · exact absurd (g0.symm.trans hc203) (by decide)
        · exact Or.inr ⟨rfl, fun q => g q.1⟩
      · refine W.iloadN C at_206 rfl rfl ?_
        refine W.iload C at_207 rfl rfl ?_
        refine W.icmp C (pc' := 230) (pn := 212) at_209 (by decide) rfl rfl (W.q_ne p1 c2) (fun hc209 => ?_) (fun hc209 => ?_)
        · refine W.iconst C (x := (0 : Int32)) at_230 rfl rfl ?_
          refine W.istore C (Ls' := #[.val (.int p0), .val (.int p1), .val (.long q2), .second, .val (.int p3), .val (.int p4), .val (.long q5), .second, .val (.int v2), .val (.int v4), .val (.int v7), .val (.int lb), .val (.int b1), .val (.int b2), .val (.ref r17), .val (.ref r18), .val (.int c2), .val (.long t2), .second, .val (.int m2), .val (.int ss), .val (.int (0 : Int32)), .unset, .unset, .unset, .unset, .unset, .unset, .unset]) at_231 rfl rfl ?_
          refine J233 c2 t2 m2 ss _ ?_
          exact Or.inr ⟨rfl, fun q => hc209 q.2.1⟩
        · refine W.lloadN C at_212 rfl rfl ?_
          refine W.lload C at_213 rfl rfl ?_
          refine W.lcif C (pm := 216) (pc' := 230) (pn := 219) at_215 rfl at_216 (by decide) rfl rfl (W.ql_ne q2 t2) (fun hc215 => ?_) (fun hc215 => ?_)
          · refine W.iconst C (x := (0 : Int32)) at_230 rfl rfl ?_
            refine W.istore C (Ls' := #[.val (.int p0), .val (.int p1), .val (.long q2), .second, .val (.int p3), .val (.int p4), .val (.long q5), .second, .val (.int v2), .val (.int v4), .val (.int v7), .val (.int lb), .val (.int b1), .val (.int b2), .val (.ref r17), .val (.ref r18), .val (.int c2), .val (.long t2), .second, .val (.int m2), .val (.int ss), .val (.int (0 : Int32)), .unset, .unset, .unset, .unset, .unset, .unset, .unset]) at_231 rfl rfl ?_
            refine J233 c2 t2 m2 ss _ ?_
            exact Or.inr ⟨rfl, fun q => hc215 q.2.2.1⟩
          · refine W.iload C at_219 rfl rfl ?_
            refine W.iload C at_221 rfl rfl ?_
            refine W.icmp C (pc' := 230) (pn := 226) at_223 (by decide) rfl rfl (W.q_ne p3 m2) (fun hc223 => ?_) (fun hc223 => ?_)
            · refine W.iconst C (x := (0 : Int32)) at_230 rfl rfl ?_
              refine W.istore C (Ls' := #[.val (.int p0), .val (.int p1), .val (.long q2), .second, .val (.int p3), .val (.int p4), .val (.long q5), .second, .val (.int v2), .val (.int v4), .val (.int v7), .val (.int lb), .val (.int b1), .val (.int b2), .val (.ref r17), .val (.ref r18), .val (.int c2), .val (.long t2), .second, .val (.int m2), .val (.int ss), .val (.int (0 : Int32)), .unset, .unset, .unset, .unset, .unset, .unset, .unset]) at_231 rfl rfl ?_
              refine J233 c2 t2 m2 ss _ ?_
              exact Or.inr ⟨rfl, fun q => hc223 q.2.2.2⟩
            · refine W.iconst C (x := (1 : Int32)) at_226 rfl rfl ?_
              refine W.goto C (pc' := 231) at_227 (by decide) rfl ?_
              refine W.istore C (Ls' := #[.val (.int p0), .val (.int p1), .val (.long q2), .second, .val (.int p3), .val (.int p4), .val (.long q5), .second, .val (.int v2), .val (.int v4), .val (.int v7), .val (.int lb), .val (.int b1), .val (.int b2), .val (.ref r17), .val (.ref r18), .val (.int c2), .val (.long t2), .second, .val (.int m2), .val (.int ss), .val (.int (1 : Int32)), .unset, .unset, .unset, .unset, .unset, .unset, .unset]) at_231 rfl rfl ?_
              refine J233 c2 t2 m2 ss _ ?_
              rcases hss with ⟨-, g⟩ | ⟨g0, g⟩
              · exact Or.inl ⟨rfl, g, hc209, hc215, hc223⟩
              · exact absurd g0 hc203
    have J161 : ∀ (c2 : Int32) (t2 : Int64) (m2 : Int32), W.Go p l e room_1 (s0.setVm vm18) m #[(.int p0), (.int p1), (.long q2), (.int p3), (.int p4), (.long q5)] below meth c (fun s₂ o L => CHr Z consts_1 s0.vm s0.heap s₂.vm s₂.heap ∧ ReturnedEndW s0 o s₂ L 32 1152) n0 (fun v _ => v = some (.int 1)) h18 (12) (24) (mkF m 161 #[.val (.int p0), .val (.int p1), .val (.long q2), .second, .val (.int p3), .val (.int p4), .val (.long q5), .second, .val (.int v2), .val (.int v4), .val (.int v7), .val (.int lb), .val (.int b1), .val (.int b2), .val (.ref r17), .val (.ref r18), .val (.int c2), .val (.long t2), .second, .val (.int m2), .unset, .unset, .unset, .unset, .unset, .unset, .unset, .unset, .unset] []) := by
      intro c2 t2 m2
      refine W.iload C at_161 rfl rfl ?_
      refine W.iload C at_163 rfl rfl ?_
      refine W.icmp C (pc' := 198) (pn := 168) at_165 (by decide) rfl rfl (W.q_ne v2 lb) (fun hc165 => ?_) (fun hc165 => ?_)
      · refine W.iconst C (x := (0 : Int32)) at_198 rfl rfl ?_
        refine W.istore C (Ls' := #[.val (.int p0), .val (.int p1), .val (.long q2), .second, .val (.int p3), .val (.int p4), .val (.long q5), .second, .val (.int v2), .val (.int v4), .val (.int v7), .val (.int lb), .val (.int b1), .val (.int b2), .val (.ref r17), .val (.ref r18), .val (.int c2), .val (.long t2), .second, .val (.int m2), .val (.int (0 : Int32)), .unset, .unset, .unset, .unset, .unset, .unset, .unset, .unset]) at_199 rfl rfl ?_
        exact J201 c2 t2 m2 _ (Or.inr ⟨rfl, fun q => hc165 q.1⟩)
      · refine W.iload C at_168 rfl rfl ?_
        refine W.iconst C (x := (1 : Int32)) at_170 rfl rfl ?_
        refine W.icmp C (pc' := 181) (pn := 174) at_171 (by decide) rfl rfl (W.q_lt v2 (1 : Int32)) (fun hc171 => ?_) (fun hc171 => ?_)
        · refine W.iload C at_181 rfl rfl ?_
          refine W.iconst C (x := (2 : Int32)) at_183 rfl rfl ?_
          refine W.icmp C (pc' := 194) (pn := 187) at_184 (by decide) rfl rfl (W.q_lt v2 (2 : Int32)) (fun hc184 => ?_) (fun hc184 => ?_)
          · refine W.iconst C (x := (1 : Int32)) at_194 rfl rfl ?_
            refine W.goto C (pc' := 199) at_195 (by decide) rfl ?_
            refine W.istore C (Ls' := #[.val (.int p0), .val (.int p1), .val (.long q2), .second, .val (.int p3), .val (.int p4), .val (.long q5), .second, .val (.int v2), .val (.int v4), .val (.int v7), .val (.int lb), .val (.int b1), .val (.int b2), .val (.ref r17), .val (.ref r18), .val (.int c2), .val (.long t2), .second, .val (.int m2), .val (.int (1 : Int32)), .unset, .unset, .unset, .unset, .unset, .unset, .unset, .unset]) at_199 rfl rfl ?_
            simp only [Int32.reduceToInt] at hc171
            simp only [Int32.reduceToInt] at hc184
            exact J201 c2 t2 m2 _ (Or.inl ⟨rfl, hc165, Or.inl hc171, Or.inl hc184⟩)
          · refine W.iload C at_187 rfl rfl ?_
            refine W.iload C at_189 rfl rfl ?_
            refine W.icmp C (pc' := 198) (pn := 194) at_191 (by decide) rfl rfl (W.q_ne v7 b2) (fun hc191 => ?_) (fun hc191 => ?_)
            · refine W.iconst C (x := (0 : Int32)) at_198 rfl rfl ?_
              refine W.istore C (Ls' := #[.val (.int p0), .val (.int p1), .val (.long q2), .second, .val (.int p3), .val (.int p4), .val (.long q5), .second, .val (.int v2), .val (.int v4), .val (.int v7), .val (.int lb), .val (.int b1), .val (.int b2), .val (.ref r17), .val (.ref r18), .val (.int c2), .val (.long t2), .second, .val (.int m2), .val (.int (0 : Int32)), .unset, .unset, .unset, .unset, .unset, .unset, .unset, .unset]) at_199 rfl rfl ?_
              simp only [Int32.reduceToInt] at hc171
              simp only [Int32.reduceToInt] at hc184
              exact J201 c2 t2 m2 _ (Or.inr ⟨rfl, fun q => q.2.2.elim (fun z => absurd z (by omega)) hc191⟩)
            · refine W.iconst C (x := (1 : Int32)) at_194 rfl rfl ?_
              refine W.goto C (pc' := 199) at_195 (by decide) rfl ?_
              refine W.istore C (Ls' := #[.val (.int p0), .val (.int p1), .val (.long q2), .second, .val (.int p3), .val (.int p4), .val (.long q5), .second, .val (.int v2), .val (.int v4), .val (.int v7), .val (.int lb), .val (.int b1), .val (.int b2), .val (.ref r17), .val (.ref r18), .val (.int c2), .val (.long t2), .second, .val (.int m2), .val (.int (1 : Int32)), .unset, .unset, .unset, .unset, .unset, .unset, .unset, .unset]) at_199 rfl rfl ?_
              simp only [Int32.reduceToInt] at hc171
              simp only [Int32.reduceToInt] at hc184
              exact J201 c2 t2 m2 _ (Or.inl ⟨rfl, hc165, Or.inl hc171, Or.inr hc191⟩)
        · refine W.iload C at_174 rfl rfl ?_
          refine W.iload C at_176 rfl rfl ?_
          refine W.icmp C (pc' := 198) (pn := 181) at_178 (by decide) rfl rfl (W.q_ne v4 b1) (fun hc178 => ?_) (fun hc178 => ?_)
          · refine W.iconst C (x := (0 : Int32)) at_198 rfl rfl ?_
            refine W.istore C (Ls' := #[.val (.int p0), .val (.int p1), .val (.long q2), .second, .val (.int p3), .val (.int p4), .val (.long q5), .second, .val (.int v2), .val (.int v4), .val (.int v7), .val (.int lb), .val (.int b1), .val (.int b2), .val (.ref r17), .val (.ref r18), .val (.int c2), .val (.long t2), .second, .val (.int m2), .val (.int (0 : Int32)), .unset, .unset, .unset, .unset, .unset, .unset, .unset, .unset]) at_199 rfl rfl ?_
            simp only [Int32.reduceToInt] at hc171
            exact J201 c2 t2 m2 _ (Or.inr ⟨rfl, fun q => q.2.1.elim (fun z => absurd z (by omega)) hc178⟩)
          · refine W.iload C at_181 rfl rfl ?_
            refine W.iconst C (x := (2 : Int32)) at_183 rfl rfl ?_
            refine W.icmp C (pc' := 194) (pn := 187) at_184 (by decide) rfl rfl (W.q_lt v2 (2 : Int32)) (fun hc184 => ?_) (fun hc184 => ?_)
            · refine W.iconst C (x := (1 : Int32)) at_194 rfl rfl ?_
              refine W.goto C (pc' := 199) at_195 (by decide) rfl ?_
              refine W.istore C (Ls' := #[.val (.int p0), .val (.int p1), .val (.long q2), .second, .val (.int p3), .val (.int p4), .val (.long q5), .second, .val (.int v2), .val (.int v4), .val (.int v7), .val (.int lb), .val (.int b1), .val (.int b2), .val (.ref r17), .val (.ref r18), .val (.int c2), .val (.long t2), .second, .val (.int m2), .val (.int (1 : Int32)), .unset, .unset, .unset, .unset, .unset, .unset, .unset, .unset]) at_199 rfl rfl ?_
              simp only [Int32.reduceToInt] at hc171
              simp only [Int32.reduceToInt] at hc184
              exact J201 c2 t2 m2 _ (Or.inl ⟨rfl, hc165, Or.inr hc178, Or.inl hc184⟩)
            · refine W.iload C at_187 rfl rfl ?_
              refine W.iload C at_189 rfl rfl ?_
              refine W.icmp C (pc' := 198) (pn := 194) at_191 (by decide) rfl rfl (W.q_ne v7 b2) (fun hc191 => ?_) (fun hc191 => ?_)
              · refine W.iconst C (x := (0 : Int32)) at_198 rfl rfl ?_
                refine W.istore C (Ls' := #[.val (.int p0), .val (.int p1), .val (.long q2), .second, .val (.int p3), .val (.int p4), .val (.long q5), .second, .val (.int v2), .val (.int v4), .val (.int v7), .val (.int lb), .val (.int b1), .val (.int b2), .val (.ref r17), .val (.ref r18), .val (.int c2), .val (.long t2), .second, .val (.int m2), .val (.int (0 : Int32)), .unset, .unset, .unset, .unset, .unset, .unset, .unset, .unset]) at_199 rfl rfl ?_
                simp only [Int32.reduceToInt] at hc171
                simp only [Int32.reduceToInt] at hc184
                exact J201 c2 t2 m2 _ (Or.inr ⟨rfl, fun q => q.2.2.elim (fun z => absurd z (by omega)) hc191⟩)
              · refine W.iconst C (x := (1 : Int32)) at_194 rfl rfl ?_
                refine W.goto C (pc' := 199) at_195 (by decide) rfl ?_
                refine W.istore C (Ls' := #[.val (.int p0), .val (.int p1), .val (.long q2), .second, .val (.int p3), .val (.int p4), .val (.long q5), .second, .val (.int v2), .val (.int v4), .val (.int v7), .val (.int lb), .val (.int b1), .val (.int b2), .val (.ref r17), .val (.ref r18), .val (.int c2), .val (.long t2), .second, .val (.int m2), .val (.int (1 : Int32)), .unset, .unset, .unset, .unset, .unset, .unset, .unset, .unset]) at_199 rfl rfl ?_
                simp only [Int32.reduceToInt] at hc171
                simp only [Int32.reduceToInt] at hc184
                exact J201 c2 t2 m2 _ (Or.inl ⟨rfl, hc165, Or.inr hc178, Or.inr hc191⟩)
    have J138 : ∀ (c2 : Int32) (t2 : Int64), W.Go p l e room_1 (s0.setVm vm18) m #[(.int p0), (.int p1), (.long q2), (.int p3), (.int p4), (.long q5)] below meth c (fun s₂ o L => CHr Z consts_1 s0.vm s0.heap s₂.vm s₂.heap ∧ ReturnedEndW s0 o s₂ L 32 1152) n0 (fun v _ => v = some (.int 1)) h18 (12) (24) (mkF m 138 #[.val (.int p0), .val (.int p1), .val (.long q2), .second, .val (.int p3), .val (.int p4), .val (.long q5), .second, .val (.int v2), .val (.int v4), .val (.int v7), .val (.int lb), .val (.int b1), .val (.int b2), .val (.ref r17), .val (.ref r18), .val (.int c2), .val (.long t2), .second, .unset, .unset, .unset, .unset, .unset, .unset, .unset, .unset, .unset, .unset] []) := by
      intro c2 t2
      refine W.iload C at_138 rfl rfl ?_
      refine W.bipush C (x := (6 : Int32)) at_140 rfl rfl ?_
      refine W.iushr C (z := (((p4).toUInt32 >>> ((6 : Int32) &&& 31).toUInt32).toInt32)) at_142 rfl rfl ?_
      refine W.iconst C (x := (1 : Int32)) at_143 rfl rfl ?_
      refine W.iand C (z := ((((p4).toUInt32 >>> ((6 : Int32) &&& 31).toUInt32).toInt32) &&& (1 : Int32))) at_144 rfl rfl ?_
      refine W.ifc C (pc' := 157) (pn := 148) at_145 (by decide) rfl rfl (W.q_eq ((((p4).toUInt32 >>> ((6 : Int32) &&& 31).toUInt32).toInt32) &&& (1 : Int32)) (0 : Int32)) (fun hc145 => ?_) (fun hc145 => ?_)
      · refine W.iload C at_157 rfl rfl ?_
        refine W.istore C (Ls' := #[.val (.int p0), .val (.int p1), .val (.long q2), .second, .val (.int p3), .val (.int p4), .val (.long q5), .second, .val (.int v2), .val (.int v4), .val (.int v7), .val (.int lb), .val (.int b1), .val (.int b2), .val (.ref r17), .val (.ref r18), .val (.int c2), .val (.long t2), .second, .val (.int p3), .unset, .unset, .unset, .unset, .unset, .unset, .unset, .unset, .unset]) at_159 rfl rfl ?_
        exact J161 c2 t2 p3
      · refine W.lload C at_148 rfl rfl ?_
        refine W.bipush C (x := (32 : Int32)) at_150 rfl rfl ?_
        refine W.lushr C (z := (((q5).toUInt64 >>> ((32 : Int32) &&& 0x3f).toInt64.toUInt64).toInt64)) at_152 rfl rfl ?_
        refine W.l2i C (z := (((((q5).toUInt64 >>> ((32 : Int32) &&& 0x3f).toInt64.toUInt64).toInt64)).toInt32)) at_153 rfl rfl ?_
        refine W.goto C (pc' := 159) at_154 (by decide) rfl ?_
        refine W.istore C (Ls' := #[.val (.int p0), .val (.int p1), .val (.long q2), .second, .val (.int p3), .val (.int p4), .val (.long q5), .second, .val (.int v2), .val (.int v4), .val (.int v7), .val (.int lb), .val (.int b1), .val (.int b2), .val (.ref r17), .val (.ref r18), .val (.int c2), .val (.long t2), .second, .val (.int (((((q5).toUInt64 >>> ((32 : Int32) &&& 0x3f).toInt64.toUInt64).toInt64)).toInt32)), .unset, .unset, .unset, .unset, .unset, .unset, .unset, .unset, .unset]) at_159 rfl rfl ?_
        exact J161 c2 t2 (((((q5).toUInt64 >>> ((32 : Int32) &&& 0x3f).toInt64.toUInt64).toInt64)).toInt32)
    have J121 : ∀ (c2 : Int32), W.Go p l e room_1 (s0.setVm vm18) m #[(.int p0), (.int p1), (.long q2), (.int p3), (.int p4), (.long q5)] below meth c (fun s₂ o L => CHr Z consts_1 s0.vm s0.heap s₂.vm s₂.heap ∧ ReturnedEndW s0 o s₂ L 32 1152) n0 (fun v _ => v = some (.int 1)) h18 (12) (24) (mkF m 121 #[.val (.int p0), .val (.int p1), .val (.long q2), .second, .val (.int p3), .val (.int p4), .val (.long q5), .second, .val (.int v2), .val (.int v4), .val (.int v7), .val (.int lb), .val (.int b1), .val (.int b2), .val (.ref r17), .val (.ref r18), .val (.int c2), .unset, .unset, .unset, .unset, .unset, .unset, .unset, .unset, .unset, .unset, .unset, .unset] []) := by
      intro c2
      refine W.iload C at_121 rfl rfl ?_
      refine W.iconst C (x := (5 : Int32)) at_123 rfl rfl ?_
      refine W.iushr C (z := (((p4).toUInt32 >>> ((5 : Int32) &&& 31).toUInt32).toInt32)) at_124 rfl rfl ?_
      refine W.iconst C (x := (1 : Int32)) at_125 rfl rfl ?_
      refine W.iand C (z := ((((p4).toUInt32 >>> ((5 : Int32) &&& 31).toUInt32).toInt32) &&& (1 : Int32))) at_126 rfl rfl ?_
      refine W.ifc C (pc' := 135) (pn := 130) at_127 (by decide) rfl rfl (W.q_eq ((((p4).toUInt32 >>> ((5 : Int32) &&& 31).toUInt32).toInt32) &&& (1 : Int32)) (0 : Int32)) (fun hc127 => ?_) (fun hc127 => ?_)
      · refine W.lloadN C at_135 rfl rfl ?_
        refine W.lstore C (Ls' := #[.val (.int p0), .val (.int p1), .val (.long q2), .second, .val (.int p3), .val (.int p4), .val (.long q5), .second, .val (.int v2), .val (.int v4), .val (.int v7), .val (.int lb), .val (.int b1), .val (.int b2), .val (.ref r17), .val (.ref r18), .val (.int c2), .val (.long q2), .second, .unset, .unset, .unset, .unset, .unset, .unset, .unset, .unset, .unset, .unset]) at_136 rfl rfl ?_
        exact J138 c2 q2
      · refine W.lload C at_130 rfl rfl ?_
        refine W.goto C (pc' := 136) at_132 (by decide) rfl ?_
        refine W.lstore C (Ls' := #[.val (.int p0), .val (.int p1), .val (.long q2), .second, .val (.int p3), .val (.int p4), .val (.long q5), .second, .val (.int v2), .val (.int v4), .val (.int v7), .val (.int lb), .val (.int b1), .val (.int b2), .val (.ref r17), .val (.ref r18), .val (.int c2), .val (.long q5), .second, .unset, .unset, .unset, .unset, .unset, .unset, .unset, .unset, .unset, .unset]) at_136 rfl rfl ?_
        exact J138 c2 q5
    refine W.iload C at_103 rfl rfl ?_
    refine W.iconst C (x := (4 : Int32)) at_105 rfl rfl ?_
    refine W.iushr C (z := (((p4).toUInt32 >>> ((4 : Int32) &&& 31).toUInt32).toInt32)) at_106 rfl rfl ?_
    refine W.iconst C (x := (1 : Int32)) at_107 rfl rfl ?_
    refine W.iand C (z := ((((p4).toUInt32 >>> ((4 : Int32) &&& 31).toUInt32).toInt32) &&& (1 : Int32))) at_108 rfl rfl ?_
    refine W.ifc C (pc' := 118) (pn := 112) at_109 (by decide) rfl rfl (W.q_eq ((((p4).toUInt32 >>> ((4 : Int32) &&& 31).toUInt32).toInt32) &&& (1 : Int32)) (0 : Int32)) (fun hc109 => ?_) (fun hc109 => ?_)
    · refine W.iloadN C at_118 rfl rfl ?_
      refine W.istore C (Ls' := #[.val (.int p0), .val (.int p1), .val (.long q2), .second, .val (.int p3), .val (.int p4), .val (.long q5), .second, .val (.int v2), .val (.int v4), .val (.int v7), .val (.int lb), .val (.int b1), .val (.int b2), .val (.ref r17), .val (.ref r18), .val (.int p1), .unset, .unset, .unset, .unset, .unset, .unset, .unset, .unset, .unset, .unset, .unset, .unset]) at_119 rfl rfl ?_
      exact J121 p1
    · refine W.lload C at_112 rfl rfl ?_
      refine W.l2i C (z := ((q5).toInt32)) at_114 rfl rfl ?_
      refine W.goto C (pc' := 119) at_115 (by decide) rfl ?_
      refine W.istore C (Ls' := #[.val (.int p0), .val (.int p1), .val (.long q2), .second, .val (.int p3), .val (.int p4), .val (.long q5), .second, .val (.int v2), .val (.int v4), .val (.int v7), .val (.int lb), .val (.int b1), .val (.int b2), .val (.ref r17), .val (.ref r18), .val (.int ((q5).toInt32)), .unset, .unset, .unset, .unset, .unset, .unset, .unset, .unset, .unset, .unset, .unset, .unset]) at_119 rfl rfl ?_
      exact J121 ((q5).toInt32)
  refine W.iload C at_59 rfl rfl ?_
  refine W.bipush C (x := (7 : Int32)) at_61 rfl rfl ?_
  refine W.iushr C (z := (((p4).toUInt32 >>> ((7 : Int32) &&& 31).toUInt32).toInt32)) at_63 rfl rfl ?_
  refine W.iconst C (x := (1 : Int32)) at_64 rfl rfl ?_
  refine W.iand C (z := ((((p4).toUInt32 >>> ((7 : Int32) &&& 31).toUInt32).toInt32) &&& (1 : Int32))) at_65 rfl rfl ?_
  refine W.ifc C (pc' := 81) (pn := 69) at_66 (by decide) rfl rfl (W.q_eq ((((p4).toUInt32 >>> ((7 : Int32) &&& 31).toUInt32).toInt32) &&& (1 : Int32)) (0 : Int32)) (fun hc66 => ?_) (fun hc66 => ?_)
  · exact J81 v10 v13 v16 r_v10 r_v13 r_v16
  · refine W.iload C at_69 rfl rfl ?_
    refine W.istore C (Ls' := #[.val (.int p0), .val (.int p1), .val (.long q2), .second, .val (.int p3), .val (.int p4), .val (.long q5), .second, .val (.int v2), .val (.int v4), .val (.int v7), .val (.int v2), .val (.int v13), .val (.int v16), .unset, .unset, .unset, .unset, .unset, .unset, .unset, .unset, .unset, .unset, .unset, .unset, .unset, .unset, .unset]) at_71 rfl rfl ?_
    refine W.iload C at_73 rfl rfl ?_
    refine W.istore C (Ls' := #[.val (.int p0), .val (.int p1), .val (.long q2), .second, .val (.int p3), .val (.int p4), .val (.long q5), .second, .val (.int v2), .val (.int v4), .val (.int v7), .val (.int v2), .val (.int v4), .val (.int v16), .unset, .unset, .unset, .unset, .unset, .unset, .unset, .unset, .unset, .unset, .unset, .unset, .unset, .unset, .unset]) at_75 rfl rfl ?_
    refine W.iload C at_77 rfl rfl ?_
    refine W.istore C (Ls' := #[.val (.int p0), .val (.int p1), .val (.long q2), .second, .val (.int p3), .val (.int p4), .val (.long q5), .second, .val (.int v2), .val (.int v4), .val (.int v7), .val (.int v2), .val (.int v4), .val (.int v7), .unset, .unset, .unset, .unset, .unset, .unset, .unset, .unset, .unset, .unset, .unset, .unset, .unset, .unset, .unset]) at_79 rfl rfl ?_
    exact J81 v2 v4 v7 r_v2 r_v4 r_v7
set_option maxRecDepth 65536 in
set_option maxHeartbeats 40000000 in
theorem comes_1 {Post : Tables → Env → Array Value → State → Outcome → State → Prop} (hpost : ∀ tb e args s v u, (limb_1_1.after args s (.returned v) u = true ∧ limb_1_2.after args s (.returned v) u = true ∧ True) → FramedW s (.returned v) u (Jvm.fieldLocs frame_1_writes args s ++ Jvm.arrayLocs frame_1_arrays args s ++ Jvm.staticLocs frame_1_statics s) 32 1152 → Post tb e args s (.returned v) u) :
    ArmFor flags0 classFile x code maxLocals ret World_1 tables_1 room_1 Calls_1 rest_1 Pre_1 Post := by
  intro l hfl _ _ p e ha hc hk s m args below hf hA hF happ hP
  obtain ⟨hcalls, hrest, hpre⟩ := hP
  obtain ⟨-, -, -, hnamed, -, -, -, hat⟩ := (Spec.applies_iff hf).mp happ
  obtain ⟨hg, hn⟩ := and_e (Cond.before_iff.mp (show (Jvm.Cond.and given_1 narrow_1).before args s = true from hpre))
  obtain ⟨gv1, gv2⟩ := and_e hg
  obtain ⟨gv3, gv4⟩ := and_e gv2
  obtain ⟨gv5, gv6⟩ := and_e gv4
  obtain ⟨gv7, gv8⟩ := and_e gv6
  obtain ⟨gv9, gv10⟩ := and_e gv8
  obtain ⟨gv11, gv12⟩ := and_e gv10
  obtain ⟨w0, w1, w2, w3, w4, w5, rfl⟩ : ∃ w0 w1 w2 w3 w4 w5 : Value, args = #[w0, w1, w2, w3, w4, w5] := by
    have hs : args.size = 6 := by simpa [Cond.value, given_1] using gv1
    obtain ⟨L⟩ := args
    match L, hs with
    | [w0, w1, w2, w3, w4, w5], _ => exact ⟨w0, w1, w2, w3, w4, w5, rfl⟩
  have hw := fun d (hd : d ∈ tables_1) => atoms_spec (ws := Jvm.Cond.code x code maxLocals ret :: tables_1) hat d (List.mem_cons_of_mem _ hd)
  have hfit : Fit s := fun {y c} hc i hi => by
    obtain ⟨ha, rfl⟩ := Array.getElem?_eq_some_iff.mp hc
    have q := List.all_eq_true.mp ((Array.all_eq_true_iff_forall_mem.mp hF) _ (Array.getElem_mem ha)) i (List.mem_range.mpr hi)
    simpa [Array.getElem?_eq_getElem hi] using q
  obtain ⟨hsets, hown0⟩ := atoms_of _ (rest_1_c_eq ▸ (show rest_1_c.before _ s = true from hrest))
  have hr0 := Cond.before_iff.mp hown0
  obtain ⟨i0, ei0⟩ := is_v gv3
  obtain rfl : w0 = (.int i0) := Option.some.inj ei0
  obtain ⟨i1, ei1⟩ := is_v gv5
  obtain rfl : w1 = (.int i1) := Option.some.inj ei1
  obtain ⟨i2, ei2⟩ := isL_v gv7
  obtain rfl : w2 = (.long i2) := Option.some.inj ei2
  obtain ⟨i3, ei3⟩ := is_v gv9
  obtain rfl : w3 = (.int i3) := Option.some.inj ei3
  obtain ⟨i4, ei4⟩ := is_v gv11
  obtain rfl : w4 = (.int i4) := Option.some.inj ei4
  obtain ⟨i5, ei5⟩ := isL_v gv12
  obtain rfl : w5 = (.long i5) := Option.some.inj ei5
  obtain ⟨cs, ecs⟩ := is_v (Cond.before_iff.mp (hsets _ (List.mem_of_getElem? (i := 1) rfl)))
  have SC : Sta s s.heap "java/lang/String" "COMPACT_STRINGS" "Z" (.int cs) := Sta.start ecs (Or.inl (hsets _ (List.mem_of_getElem? (i := 0) rfl)))
  have hcs : ¬ cs = 0 := fun q => by
    have hb := Cond.before_iff.mp (hsets _ (List.mem_of_getElem? (i := 2) rfl))
    subst q
    simp [Cond.value, Term.eval] at hb ecs
    simp [hb, ecs] at hb
  have hSA : ∀ a ∈ Bundle.stringAtoms, a.before #[(.int i0), (.int i1), (.long i2), (.int i3), (.int i4), (.long i5)] s = true := by
    intro a ha
    simp only [Bundle.stringAtoms, List.mem_cons, List.not_mem_nil, or_false] at ha
    rcases ha with rfl | rfl | rfl | rfl | rfl | rfl | rfl
    · exact (hw _ (List.mem_of_getElem? (i := 6) rfl))
    · exact (hw _ (List.mem_of_getElem? (i := 5) rfl))
    · exact (hw _ (List.mem_of_getElem? (i := 19) rfl))
    · exact (hw _ (List.mem_of_getElem? (i := 20) rfl))
    · exact (hw _ (List.mem_of_getElem? (i := 21) rfl))
    · exact (hw _ (List.mem_of_getElem? (i := 22) rfl))
    · exact (hw _ (List.mem_of_getElem? (i := 23) rfl))
  have hEL : EW s #[(.int i0), (.int i1), (.long i2), (.int i3), (.int i4), (.long i5)] consts_1 := (EW.cons (hw _ (List.mem_of_getElem? (i := 18) rfl)) tx_0.1 EW.nil)
  have hCH : CHv s consts_1 s.vm s.heap := CHv.start hEL (fun p hp => hcalls.1 p hp) (hsets _ (List.mem_of_getElem? (i := 2) rfl)) (hw _ (List.mem_of_getElem? (i := 19) rfl)) (hw _ (List.mem_of_getElem? (i := 5) rfl))
  obtain ⟨n, o, h1, h2, h3, v, L, rfl, ⟨hGv, N⟩, -, hq⟩ := rm0 l s _ hw hEL hSA tables_1 i0 i1 i2 i3 i4 i5 cs s.heap s.heap.size (Nat.le_refl _) SC hcs (Old.start s) p e ha hc hk s m _ below hf ((Spec.applies_iff_loose hf).mp happ).1 ⟨rfl, State.Warmed39.refl s, rfl, hCH, fun x hx => absurd hx List.not_mem_nil⟩ trivial
  obtain rfl : v = some (.int 1) := hGv
  refine ⟨n, _, h1, h2, h3, hpost _ _ _ _ _ _ ⟨Cond.after_iff.mpr rfl, Cond.after_iff.mpr (eq_i res_at (Term.int_eval (1)) rfl), trivial⟩ ⟨hq.1, hq.2.1, hq.2.2.1, (hq.2.2.2.sift fun y hy => Or.inr (N y hy)).mono (by decide) (by decide)⟩⟩
theorem main_1_1 : Claimed_1_1 := comes_1 fun _ _ _ _ _ _ h hF => ⟨h.1, hF⟩
theorem main_1_2 : Claimed_1_2 := comes_1 fun _ _ _ _ _ _ h hF => ⟨h.2.1, hF⟩
end Jvm.Pilot.@@N@@
namespace Jvm.Pilot.@@N@@
open Jvm Jvm.ClassFile Sem Op Lib Jvm.Free Jvm.Stand Jvm.Pilot.@@N@@.Jvm.D
/-! MADE BY PROGRAM (witnessworld.py) out of the Statement's table words and the real class files: 20 classes; the members and pool entries that the words name. The judged class is class 1, her method 2. -/
namespace start1
open Jvm.ClassFile
def u (s : String) : CpInfo := .utf8 (stringToUtf16 s)
/-- a pool by its gaps: so many unusable entries, then the entry; so many at the end -/
def gap : Nat → List CpInfo → List CpInfo
  | 0, r => r
  | n + 1, r => .unusable :: gap n r
def poolList (es : List (Nat × CpInfo)) (last : Nat) : List CpInfo := es.foldr (fun e r => gap e.1 (e.2 :: r)) (gap last [])
def pool (es : List (Nat × CpInfo)) (last : Nat) : Array CpInfo := ⟨poolList es last⟩
def fileOf (pool : Array CpInfo) (this : Nat) (attrs : Array Attribute := #[]) (ms : Array MethodInfo := #[]) (fl : Nat := 33) (sup : Nat := 0) (ifs : Array Nat := #[]) (fds : Array FieldInfo := #[]) : ClassFile where
  minorVersion := 0
  majorVersion := 65
  constantPool := pool
  accessFlags := fl
  thisClass := this
  superClass := sup
  interfaces := ifs
  fields := fds
  methods := ms
  attributes := attrs
def plain (name : String) (sup : Option ClassId) : Class where
  name := name
  kind := .ordinary
  loader := none
  accessFlags := 33
  super := sup
  interfaces := #[]
  cf := none
  fields := #[]
  methods := #[]
  instanceTypes := #[]
  staticTypes := #[]
  resolved := #[]
  callSites := []
  init := .initialized
  statics := none
  mirror := none

def pool0 : Array CpInfo := pool [(5, u "<init>"), (0, u "()V"), (1, .class_ 10), (1, u "java/lang/Object")] 113

def k0c0 : Code := { maxStack := 0, maxLocals := 1, code := object_method_1_code, exceptionTable := #[], attributes := #[] }
def k0m0 : Method := { name := "<init>", desc := "()V", sig := { parameters := [], returnType := none }, accessFlags := 1, code := some k0c0 }
/-- java/lang/Object -/
def k0 : Class := { plain "java/lang/Object" none with
  accessFlags := 33
  interfaces := #[]
  cf := some (fileOf pool0 8 #[] #[{ accessFlags := 1, nameIndex := 5, descriptorIndex := 6, attributes := #[] }] 33 0 #[] #[])
  fields := #[]
  methods := #[k0m0]
  instanceTypes := #[]
  staticTypes := #[]
  resolved := Array.replicate 124 none
  statics := none }

def pool1 : Array CpInfo := pool [(2, .class_ 4), (1, u "java/lang/Object"), (0, u "<init>"), (0, u "()V"), (0, .class_ 8), (0, u "java/lang/String"), (0, .methodref 7 10), (0, .nameAndType 5 11), (0, u "([C)V"), (0, .methodref 7 13), (0, .nameAndType 14 15), (0, u "valueOf"), (0, u "(C)Ljava/lang/String;"), (0, .methodref 17 18), (0, .class_ 19), (0, .nameAndType 20 21), (0, u "com/example/useful_few/usefulfew/engine/PostEqualsPinLaw"), (0, u "mk"), (0, u "(ICC)Ljava/lang/String;"), (0, .class_ 23), (0, u "com/example/useful_few/usefulfew/engine/Post"), (0, .methodref 22 25), (0, .nameAndType 5 26), (0, u "(Ljava/lang/String;IJI)V"), (0, .methodref 22 28), (0, .nameAndType 29 30), (0, u "equals"), (0, u "(Ljava/lang/Object;)Z"), (3, u "law"), (0, u "(IIJIIJ)Z")] 2

def k1m0 : Method := { name := "<init>", desc := "()V", sig := { parameters := [], returnType := none }, accessFlags := 1, code := none }
def k1c1 : Code := { maxStack := 3, maxLocals := 4, code := method_2_code, exceptionTable := #[], attributes := #[] }
def k1m1 : Method := { name := "mk", desc := "(ICC)Ljava/lang/String;", sig := { parameters := [.int, .char, .char], returnType := some (.object "java/lang/String") }, accessFlags := 10, code := some k1c1 }
def k1c2 : Code := { maxStack := 7, maxLocals := 29, code := code, exceptionTable := #[], attributes := #[] }
def k1m2 : Method := { name := "law", desc := "(IIJIIJ)Z", sig := { parameters := [.int, .int, .long, .int, .int, .long], returnType := some .boolean }, accessFlags := 9, code := some k1c2 }
/-- com/example/useful_few/usefulfew/engine/PostEqualsPinLaw -/
def k1 : Class := { plain "com/example/useful_few/usefulfew/engine/PostEqualsPinLaw" (some 0) with
  accessFlags := 49
  interfaces := #[]
  cf := some (fileOf pool1 17 #[] #[{ accessFlags := 1, nameIndex := 5, descriptorIndex := 6, attributes := #[] }, { accessFlags := 10, nameIndex := 20, descriptorIndex := 21, attributes := #[] }, { accessFlags := 9, nameIndex := 34, descriptorIndex := 35, attributes := #[] }] 49 2 #[] #[])
  fields := #[]
  methods := #[k1m0, k1m1, k1m2]
  instanceTypes := #[]
  staticTypes := #[]
  resolved := Array.replicate 38 none
  statics := none }

def pool2 : Array CpInfo := pool [(1, .class_ 2), (0, u "java/io/Serializable"), (0, .class_ 4), (0, u "java/lang/Object")] 2

/-- java/io/Serializable -/
def k2 : Class := { plain "java/io/Serializable" (some 0) with
  accessFlags := 1537
  interfaces := #[]
  cf := some (fileOf pool2 1 #[] #[] 1537 3 #[] #[])
  fields := #[]
  methods := #[]
  instanceTypes := #[]
  staticTypes := #[]
  resolved := Array.replicate 7 none
  statics := none }

def pool3 : Array CpInfo := pool [(1, .class_ 2), (0, u "java/lang/Comparable"), (0, .class_ 4), (0, u "java/lang/Object")] 7

/-- java/lang/Comparable -/
def k3 : Class := { plain "java/lang/Comparable" (some 0) with
  accessFlags := 1537
  interfaces := #[]
  cf := some (fileOf pool3 1 #[] #[] 1537 3 #[] #[])
  fields := #[]
  methods := #[]
  instanceTypes := #[]
  staticTypes := #[]
  resolved := Array.replicate 12 none
  statics := none }

def pool4 : Array CpInfo := pool [(2, .class_ 4), (1, u "java/lang/CharSequence"), (42, .class_ 48), (0, u "java/lang/CharSequence$1CodePointIterator"), (10, .class_ 60), (0, u "java/lang/CharSequence$1CharIterator"), (5, .class_ 67), (0, u "java/lang/Object")] 63

/-- java/lang/CharSequence -/
def k4 : Class := { plain "java/lang/CharSequence" (some 0) with
  accessFlags := 1537
  interfaces := #[]
  cf := some (fileOf pool4 2 #[.nestMembers #[47, 59]] #[] 1537 66 #[] #[])
  fields := #[]
  methods := #[]
  instanceTypes := #[]
  staticTypes := #[]
  resolved := Array.replicate 131 none
  statics := none }

def pool5 : Array CpInfo := pool [(1, .class_ 2), (0, u "java/lang/constant/Constable"), (0, .class_ 4), (0, u "java/lang/Object")] 6

/-- java/lang/constant/Constable -/
def k5 : Class := { plain "java/lang/constant/Constable" (some 0) with
  accessFlags := 1537
  interfaces := #[]
  cf := some (fileOf pool5 1 #[] #[] 1537 3 #[] #[])
  fields := #[]
  methods := #[]
  instanceTypes := #[]
  staticTypes := #[]
  resolved := Array.replicate 11 none
  statics := none }

def pool6 : Array CpInfo := pool [(1, .class_ 2), (0, u "java/lang/constant/ConstantDesc"), (0, .class_ 4), (0, u "java/lang/Object")] 32

/-- java/lang/constant/ConstantDesc -/
def k6 : Class := { plain "java/lang/constant/ConstantDesc" (some 0) with
  accessFlags := 1537
  interfaces := #[]
  cf := some (fileOf pool6 1 #[] #[] 1537 3 #[] #[])
  fields := #[]
  methods := #[]
  instanceTypes := #[]
  staticTypes := #[]
  resolved := Array.replicate 37 none
  statics := none }

def pool7 : Array CpInfo := pool [(1, .methodref 2 3), (0, .class_ 4), (0, .nameAndType 5 6), (0, u "java/lang/Object"), (0, u "<init>"), (0, u "()V"), (0, .string 8), (0, u ""), (0, .fieldref 10 11), (0, .class_ 12), (0, .nameAndType 13 14), (0, u "java/lang/String"), (0, u "value"), (0, u "[B"), (0, .fieldref 10 16), (0, .nameAndType 17 18), (0, u "coder"), (0, u "B"), (2, u "hash"), (0, u "I"), (2, u "hashIsZero"), (0, u "Z"), (0, .methodref 10 28), (0, .nameAndType 5 29), (0, u "([CIILjava/lang/Void;)V"), (8, .fieldref 10 39), (0, .nameAndType 40 26), (0, u "COMPACT_STRINGS"), (1, .class_ 44), (1, u "java/lang/StringUTF16"), (0, u "compress"), (1, .methodref 42 48), (0, .nameAndType 49 50), (0, u "coderFromArrayLen"), (0, u "([BI)B"), (2, u "toBytes"), (53, .class_ 109), (1, u "java/lang/StringLatin1"), (67, .methodref 42 178), (0, .nameAndType 45 179), (0, u "([CII)[B"), (29, .methodref 10 210), (0, .nameAndType 5 211), (0, u "([BB)V"), (157, u "(C)Z"), (171, .methodref 107 542), (0, .nameAndType 543 544), (0, u "equals"), (0, u "([B[B)Z"), (28, u "(Ljava/lang/Object;)Z"), (1, .class_ 576), (0, u "java/lang/CharSequence"), (22, u "CASE_INSENSITIVE_ORDER"), (0, u "Ljava/util/Comparator;"), (181, u "valueOf"), (0, u "(C)Ljava/lang/String;"), (226, u "([C)V"), (4, .methodref 107 1016), (0, .nameAndType 1017 369), (0, u "canEncode"), (0, .methodref 107 1019), (0, .nameAndType 53 1020), (0, u "(C)[B"), (80, u "serialPersistentFields"), (0, u "[Ljava/io/ObjectStreamField;"), (0, .class_ 1104), (0, u "java/lang/String$CaseInsensitiveComparator"), (1, .class_ 1107), (0, u "java/io/Serializable"), (0, .class_ 1109), (0, u "java/lang/Comparable"), (0, .class_ 1111), (0, u "java/lang/constant/Constable"), (0, .class_ 1113), (0, u "java/lang/constant/ConstantDesc"), (2, u "serialVersionUID"), (0, u "J"), (3, u "REPL"), (0, u "C"), (2, u "LATIN1"), (1, u "UTF16")] 323

def k7m0 : Method := { name := "<init>", desc := "()V", sig := { parameters := [], returnType := none }, accessFlags := 1, code := none }
def k7c1 : Code := { maxStack := 5, maxLocals := 2, code := jdk_42_method_3_code, exceptionTable := #[], attributes := #[] }
def k7m1 : Method := { name := "<init>", desc := "([C)V", sig := { parameters := [(.array .char)], returnType := none }, accessFlags := 1, code := some k7c1 }
def k7c2 : Code := { maxStack := 2, maxLocals := 3, code := jdk_42_method_66_code, exceptionTable := #[], attributes := #[] }
def k7m2 : Method := { name := "equals", desc := "(Ljava/lang/Object;)Z", sig := { parameters := [(.object "java/lang/Object")], returnType := some .boolean }, accessFlags := 1, code := some k7c2 }
def k7c3 : Code := { maxStack := 4, maxLocals := 1, code := jdk_42_method_139_code, exceptionTable := #[], attributes := #[] }
def k7m3 : Method := { name := "valueOf", desc := "(C)Ljava/lang/String;", sig := { parameters := [.char], returnType := some (.object "java/lang/String") }, accessFlags := 9, code := some k7c3 }
def k7c4 : Code := { maxStack := 4, maxLocals := 6, code := jdk_42_method_149_code, exceptionTable := #[], attributes := #[] }
def k7m4 : Method := { name := "<init>", desc := "([CIILjava/lang/Void;)V", sig := { parameters := [(.array .char), .int, .int, (.object "java/lang/Void")], returnType := none }, accessFlags := 2, code := some k7c4 }
def k7c5 : Code := { maxStack := 2, maxLocals := 3, code := jdk_42_method_151_code, exceptionTable := #[], attributes := #[] }
def k7m5 : Method := { name := "<init>", desc := "([BB)V", sig := { parameters := [(.array .byte), .byte], returnType := none }, accessFlags := 0, code := some k7c5 }
/-- java/lang/String -/
def k7 : Class := { plain "java/lang/String" (some 0) with
  accessFlags := 49
  interfaces := #[2, 3, 4, 5, 6]
  cf := some (fileOf pool7 10 #[.nestMembers #[1103]] #[{ accessFlags := 1, nameIndex := 5, descriptorIndex := 6, attributes := #[] }, { accessFlags := 1, nameIndex := 5, descriptorIndex := 1010, attributes := #[] }, { accessFlags := 1, nameIndex := 543, descriptorIndex := 573, attributes := #[] }, { accessFlags := 9, nameIndex := 782, descriptorIndex := 783, attributes := #[] }, { accessFlags := 2, nameIndex := 5, descriptorIndex := 29, attributes := #[] }, { accessFlags := 0, nameIndex := 5, descriptorIndex := 211, attributes := #[] }] 49 2 #[1106, 1108, 575, 1110, 1112] #[{ accessFlags := 18, nameIndex := 13, descriptorIndex := 14, attributes := #[] }, { accessFlags := 18, nameIndex := 17, descriptorIndex := 18, attributes := #[] }, { accessFlags := 2, nameIndex := 21, descriptorIndex := 22, attributes := #[] }, { accessFlags := 2, nameIndex := 25, descriptorIndex := 26, attributes := #[] }, { accessFlags := 26, nameIndex := 1116, descriptorIndex := 1117, attributes := #[] }, { accessFlags := 24, nameIndex := 40, descriptorIndex := 26, attributes := #[] }, { accessFlags := 26, nameIndex := 1101, descriptorIndex := 1102, attributes := #[] }, { accessFlags := 26, nameIndex := 1121, descriptorIndex := 1122, attributes := #[] }, { accessFlags := 25, nameIndex := 599, descriptorIndex := 600, attributes := #[] }, { accessFlags := 24, nameIndex := 1125, descriptorIndex := 18, attributes := #[] }, { accessFlags := 24, nameIndex := 1127, descriptorIndex := 18, attributes := #[] }])
  fields := #[{ name := "value", type := (.array .byte), accessFlags := 18, slot := 0, constantValue := 0 }, { name := "coder", type := .byte, accessFlags := 18, slot := 1, constantValue := 0 }, { name := "hash", type := .int, accessFlags := 2, slot := 2, constantValue := 0 }, { name := "hashIsZero", type := .boolean, accessFlags := 2, slot := 3, constantValue := 0 }, { name := "serialVersionUID", type := .long, accessFlags := 26, slot := 0, constantValue := 0 }, { name := "COMPACT_STRINGS", type := .boolean, accessFlags := 24, slot := 1, constantValue := 0 }, { name := "serialPersistentFields", type := (.array (.object "java/io/ObjectStreamField")), accessFlags := 26, slot := 2, constantValue := 0 }, { name := "REPL", type := .char, accessFlags := 26, slot := 3, constantValue := 0 }, { name := "CASE_INSENSITIVE_ORDER", type := (.object "java/util/Comparator"), accessFlags := 25, slot := 4, constantValue := 0 }, { name := "LATIN1", type := .byte, accessFlags := 24, slot := 5, constantValue := 0 }, { name := "UTF16", type := .byte, accessFlags := 24, slot := 6, constantValue := 0 }]
  methods := #[k7m0, k7m1, k7m2, k7m3, k7m4, k7m5]
  instanceTypes := #[(.array .byte), .byte, .int, .boolean]
  staticTypes := #[.long, .boolean, (.array (.object "java/io/ObjectStreamField")), .char, (.object "java/util/Comparator"), .byte, .byte]
  resolved := Array.replicate 1451 none
  statics := some 0 }

def pool8 : Array CpInfo := pool [(1, .methodref 2 3), (0, .class_ 4), (0, .nameAndType 5 6), (0, u "java/lang/Object"), (0, u "<init>"), (0, u "()V"), (0, .fieldref 8 9), (0, .class_ 10), (0, .nameAndType 11 12), (0, u "com/example/useful_few/usefulfew/engine/Post"), (0, u "collection"), (0, u "Ljava/lang/String;"), (0, .fieldref 8 14), (0, .nameAndType 15 16), (0, u "cdf"), (0, u "I"), (0, .fieldref 8 18), (0, .nameAndType 19 20), (0, u "ctf"), (0, u "J"), (0, .fieldref 8 22), (0, .nameAndType 23 16), (0, u "ctfmax"), (0, .methodref 25 26), (0, .class_ 27), (0, .nameAndType 28 29), (0, u "java/lang/String"), (0, u "equals"), (0, u "(Ljava/lang/Object;)Z"), (21, u "(Ljava/lang/String;IJI)V")] 29

def k8c0 : Code := { maxStack := 3, maxLocals := 6, code := prog_19_method_1_code, exceptionTable := #[], attributes := #[] }
def k8m0 : Method := { name := "<init>", desc := "(Ljava/lang/String;IJI)V", sig := { parameters := [(.object "java/lang/String"), .int, .long, .int], returnType := none }, accessFlags := 1, code := some k8c0 }
def k8c1 : Code := { maxStack := 4, maxLocals := 3, code := prog_19_method_6_code, exceptionTable := #[], attributes := #[] }
def k8m1 : Method := { name := "equals", desc := "(Ljava/lang/Object;)Z", sig := { parameters := [(.object "java/lang/Object")], returnType := some .boolean }, accessFlags := 1, code := some k8c1 }
/-- com/example/useful_few/usefulfew/engine/Post -/
def k8 : Class := { plain "com/example/useful_few/usefulfew/engine/Post" (some 0) with
  accessFlags := 33
  interfaces := #[]
  cf := some (fileOf pool8 8 #[] #[{ accessFlags := 1, nameIndex := 5, descriptorIndex := 51, attributes := #[] }, { accessFlags := 1, nameIndex := 28, descriptorIndex := 29, attributes := #[] }] 33 2 #[] #[{ accessFlags := 18, nameIndex := 11, descriptorIndex := 12, attributes := #[] }, { accessFlags := 18, nameIndex := 15, descriptorIndex := 16, attributes := #[] }, { accessFlags := 18, nameIndex := 19, descriptorIndex := 20, attributes := #[] }, { accessFlags := 18, nameIndex := 23, descriptorIndex := 16, attributes := #[] }])
  fields := #[{ name := "collection", type := (.object "java/lang/String"), accessFlags := 18, slot := 0, constantValue := 0 }, { name := "cdf", type := .int, accessFlags := 18, slot := 1, constantValue := 0 }, { name := "ctf", type := .long, accessFlags := 18, slot := 2, constantValue := 0 }, { name := "ctfmax", type := .int, accessFlags := 18, slot := 3, constantValue := 0 }]
  methods := #[k8m0, k8m1]
  instanceTypes := #[(.object "java/lang/String"), .int, .long, .int]
  staticTypes := #[]
  resolved := Array.replicate 81 none
  statics := none }

def pool9 : Array CpInfo := pool [(4, .class_ 6), (1, u "java/lang/Object"), (0, u "<init>"), (0, u "()V"), (5, .class_ 16), (1, u "java/lang/StringLatin1"), (73, u "canEncode"), (14, u "(C)Z"), (15, u "$assertionsDisabled"), (0, u "Z"), (98, .class_ 223), (1, u "java/lang/StringLatin1$LinesSpliterator"), (57, u "equals"), (0, u "([B[B)Z"), (97, u "toBytes"), (1, u "(C)[B"), (7, .class_ 391), (0, u "java/lang/StringLatin1$CharsSpliterator")] 3

def k9m0 : Method := { name := "<init>", desc := "()V", sig := { parameters := [], returnType := none }, accessFlags := 0, code := none }
def k9c1 : Code := { maxStack := 2, maxLocals := 1, code := jdk_43_method_3_code, exceptionTable := #[], attributes := #[] }
def k9m1 : Method := { name := "canEncode", desc := "(C)Z", sig := { parameters := [.char], returnType := some .boolean }, accessFlags := 9, code := some k9c1 }
def k9c2 : Code := { maxStack := 3, maxLocals := 3, code := jdk_43_method_13_code, exceptionTable := #[], attributes := #[] }
def k9m2 : Method := { name := "equals", desc := "([B[B)Z", sig := { parameters := [(.array .byte), (.array .byte)], returnType := some .boolean }, accessFlags := 9, code := some k9c2 }
def k9c3 : Code := { maxStack := 4, maxLocals := 1, code := jdk_43_method_46_code, exceptionTable := #[], attributes := #[] }
def k9m3 : Method := { name := "toBytes", desc := "(C)[B", sig := { parameters := [.char], returnType := some (.array .byte) }, accessFlags := 9, code := some k9c3 }
/-- java/lang/StringLatin1 -/
def k9 : Class := { plain "java/lang/StringLatin1" (some 0) with
  accessFlags := 48
  interfaces := #[]
  cf := some (fileOf pool9 14 #[.nestMembers #[390, 221]] #[{ accessFlags := 0, nameIndex := 7, descriptorIndex := 8, attributes := #[] }, { accessFlags := 9, nameIndex := 90, descriptorIndex := 105, attributes := #[] }, { accessFlags := 9, nameIndex := 281, descriptorIndex := 282, attributes := #[] }, { accessFlags := 9, nameIndex := 380, descriptorIndex := 382, attributes := #[] }] 48 4 #[] #[{ accessFlags := 4120, nameIndex := 121, descriptorIndex := 122, attributes := #[] }])
  fields := #[{ name := "$assertionsDisabled", type := .boolean, accessFlags := 4120, slot := 0, constantValue := 0 }]
  methods := #[k9m0, k9m1, k9m2, k9m3]
  instanceTypes := #[]
  staticTypes := #[.boolean]
  resolved := Array.replicate 395 none
  statics := none }

def pool10 : Array CpInfo := pool [(6, .class_ 8), (1, u "java/lang/Object"), (0, u "<init>"), (0, u "()V"), (1, .class_ 14), (1, u "java/lang/StringUTF16"), (31, u "$assertionsDisabled"), (0, u "Z"), (13, u "HI_BYTE_SHIFT"), (0, u "I"), (2, u "LO_BYTE_SHIFT"), (49, .methodref 12 116), (0, .nameAndType 117 118), (0, u "compress"), (0, u "([CI[BII)I"), (3, u "([CII)[B"), (138, u "coderFromArrayLen"), (0, u "([BI)B"), (106, .class_ 371), (1, u "java/lang/StringUTF16$LinesSpliterator"), (58, u "MAX_LENGTH"), (196, .class_ 628), (0, u "java/lang/StringUTF16$CodePointsSpliterator"), (0, .class_ 630), (0, u "java/lang/StringUTF16$CharsSpliterator")] 4

def k10m0 : Method := { name := "<init>", desc := "()V", sig := { parameters := [], returnType := none }, accessFlags := 0, code := none }
def k10c1 : Code := { maxStack := 2, maxLocals := 2, code := jdk_52_method_15_code, exceptionTable := #[], attributes := #[] }
def k10m1 : Method := { name := "coderFromArrayLen", desc := "([BI)B", sig := { parameters := [(.array .byte), .int], returnType := some .byte }, accessFlags := 8, code := some k10c1 }
def k10c2 : Code := { maxStack := 5, maxLocals := 6, code := jdk_52_method_16_code, exceptionTable := #[], attributes := #[] }
def k10m2 : Method := { name := "compress", desc := "([CII)[B", sig := { parameters := [(.array .char), .int, .int], returnType := some (.array .byte) }, accessFlags := 9, code := some k10c2 }
def k10c3 : Code := { maxStack := 3, maxLocals := 7, code := jdk_52_method_21_code, exceptionTable := #[], attributes := #[] }
def k10m3 : Method := { name := "compress", desc := "([CI[BII)I", sig := { parameters := [(.array .char), .int, (.array .byte), .int, .int], returnType := some .int }, accessFlags := 9, code := some k10c3 }
/-- java/lang/StringUTF16 -/
def k10 : Class := { plain "java/lang/StringUTF16" (some 0) with
  accessFlags := 48
  interfaces := #[]
  cf := some (fileOf pool10 12 #[.nestMembers #[627, 629, 369]] #[{ accessFlags := 0, nameIndex := 9, descriptorIndex := 10, attributes := #[] }, { accessFlags := 8, nameIndex := 261, descriptorIndex := 262, attributes := #[] }, { accessFlags := 9, nameIndex := 117, descriptorIndex := 122, attributes := #[] }, { accessFlags := 9, nameIndex := 117, descriptorIndex := 118, attributes := #[] }] 48 6 #[] #[{ accessFlags := 26, nameIndex := 61, descriptorIndex := 62, attributes := #[] }, { accessFlags := 26, nameIndex := 65, descriptorIndex := 62, attributes := #[] }, { accessFlags := 24, nameIndex := 430, descriptorIndex := 62, attributes := #[] }, { accessFlags := 4120, nameIndex := 46, descriptorIndex := 47, attributes := #[] }])
  fields := #[{ name := "HI_BYTE_SHIFT", type := .int, accessFlags := 26, slot := 0, constantValue := 0 }, { name := "LO_BYTE_SHIFT", type := .int, accessFlags := 26, slot := 1, constantValue := 0 }, { name := "MAX_LENGTH", type := .int, accessFlags := 24, slot := 2, constantValue := 0 }, { name := "$assertionsDisabled", type := .boolean, accessFlags := 4120, slot := 3, constantValue := 0 }]
  methods := #[k10m0, k10m1, k10m2, k10m3]
  instanceTypes := #[]
  staticTypes := #[.int, .int, .int, .boolean]
  resolved := Array.replicate 635 none
  statics := none }

def pool11 : Array CpInfo := pool [(2, .class_ 4), (1, u "java/lang/Object"), (0, u "<init>"), (0, u "()V"), (17, .class_ 26), (1, u "jdk/internal/util/Preconditions"), (28, .class_ 56), (0, u "jdk/internal/util/Preconditions$4"), (57, .class_ 115), (0, u "jdk/internal/util/Preconditions$1"), (7, u "SIOOBE_FORMATTER"), (0, u "Ljava/util/function/BiFunction;"), (0, .class_ 126), (0, u "jdk/internal/util/Preconditions$2"), (3, u "AIOOBE_FORMATTER"), (0, .class_ 132), (0, u "jdk/internal/util/Preconditions$3"), (3, u "IOOBE_FORMATTER")] 57

def k11m0 : Method := { name := "<init>", desc := "()V", sig := { parameters := [], returnType := none }, accessFlags := 1, code := none }
/-- jdk/internal/util/Preconditions -/
def k11 : Class := { plain "jdk/internal/util/Preconditions" (some 0) with
  accessFlags := 33
  interfaces := #[]
  cf := some (fileOf pool11 24 #[.nestMembers #[55, 131, 125, 114]] #[{ accessFlags := 1, nameIndex := 5, descriptorIndex := 6, attributes := #[] }] 33 2 #[] #[{ accessFlags := 25, nameIndex := 123, descriptorIndex := 124, attributes := #[] }, { accessFlags := 25, nameIndex := 130, descriptorIndex := 124, attributes := #[] }, { accessFlags := 25, nameIndex := 136, descriptorIndex := 124, attributes := #[] }])
  fields := #[{ name := "SIOOBE_FORMATTER", type := (.object "java/util/function/BiFunction"), accessFlags := 25, slot := 0, constantValue := 0 }, { name := "AIOOBE_FORMATTER", type := (.object "java/util/function/BiFunction"), accessFlags := 25, slot := 1, constantValue := 0 }, { name := "IOOBE_FORMATTER", type := (.object "java/util/function/BiFunction"), accessFlags := 25, slot := 2, constantValue := 0 }]
  methods := #[k11m0]
  instanceTypes := #[]
  staticTypes := #[(.object "java/util/function/BiFunction"), (.object "java/util/function/BiFunction"), (.object "java/util/function/BiFunction")]
  resolved := Array.replicate 194 none
  statics := some 1 }

def pool12 : Array CpInfo := pool [(9, u "<init>"), (6, .class_ 18), (1, u "java/lang/Object"), (0, u "()V"), (1, .class_ 23), (1, u "jdk/internal/util/ArraysSupport"), (0, u "LOG2_ARRAY_LONG_INDEX_SCALE"), (0, u "I"), (2, u "U"), (0, u "Ljdk/internal/misc/Unsafe;"), (8, u "BIG_ENDIAN"), (0, u "Z"), (8, u "LOG2_BYTE_BIT_SIZE"), (4, u "LOG2_ARRAY_INT_INDEX_SCALE"), (54, u "JLA"), (0, u "Ljdk/internal/access/JavaLangAccess;"), (11, u "LOG2_ARRAY_BOOLEAN_INDEX_SCALE"), (9, u "LOG2_ARRAY_BYTE_INDEX_SCALE"), (5, u "LOG2_ARRAY_CHAR_INDEX_SCALE"), (5, u "LOG2_ARRAY_SHORT_INDEX_SCALE"), (18, u "LOG2_ARRAY_FLOAT_INDEX_SCALE"), (24, u "LOG2_ARRAY_DOUBLE_INDEX_SCALE"), (89, u "T_BOOLEAN"), (2, u "T_CHAR"), (1, u "T_FLOAT"), (1, u "T_DOUBLE"), (1, u "T_BYTE"), (1, u "T_SHORT"), (1, u "T_INT"), (1, u "T_LONG"), (1, u "SOFT_MAX_ARRAY_LENGTH")] 83

def k12m0 : Method := { name := "<init>", desc := "()V", sig := { parameters := [], returnType := none }, accessFlags := 2, code := none }
/-- jdk/internal/util/ArraysSupport -/
def k12 : Class := { plain "jdk/internal/util/ArraysSupport" (some 0) with
  accessFlags := 33
  interfaces := #[]
  cf := some (fileOf pool12 21 #[] #[{ accessFlags := 2, nameIndex := 9, descriptorIndex := 19, attributes := #[] }] 33 16 #[] #[{ accessFlags := 24, nameIndex := 28, descriptorIndex := 29, attributes := #[] }, { accessFlags := 26, nameIndex := 38, descriptorIndex := 39, attributes := #[] }, { accessFlags := 25, nameIndex := 121, descriptorIndex := 25, attributes := #[] }, { accessFlags := 25, nameIndex := 131, descriptorIndex := 25, attributes := #[] }, { accessFlags := 25, nameIndex := 137, descriptorIndex := 25, attributes := #[] }, { accessFlags := 25, nameIndex := 143, descriptorIndex := 25, attributes := #[] }, { accessFlags := 25, nameIndex := 53, descriptorIndex := 25, attributes := #[] }, { accessFlags := 25, nameIndex := 24, descriptorIndex := 25, attributes := #[] }, { accessFlags := 25, nameIndex := 162, descriptorIndex := 25, attributes := #[] }, { accessFlags := 25, nameIndex := 187, descriptorIndex := 25, attributes := #[] }, { accessFlags := 26, nameIndex := 48, descriptorIndex := 25, attributes := #[] }, { accessFlags := 25, nameIndex := 277, descriptorIndex := 25, attributes := #[] }, { accessFlags := 25, nameIndex := 280, descriptorIndex := 25, attributes := #[] }, { accessFlags := 25, nameIndex := 282, descriptorIndex := 25, attributes := #[] }, { accessFlags := 25, nameIndex := 284, descriptorIndex := 25, attributes := #[] }, { accessFlags := 25, nameIndex := 286, descriptorIndex := 25, attributes := #[] }, { accessFlags := 25, nameIndex := 288, descriptorIndex := 25, attributes := #[] }, { accessFlags := 25, nameIndex := 290, descriptorIndex := 25, attributes := #[] }, { accessFlags := 25, nameIndex := 292, descriptorIndex := 25, attributes := #[] }, { accessFlags := 26, nameIndex := 108, descriptorIndex := 109, attributes := #[] }, { accessFlags := 25, nameIndex := 294, descriptorIndex := 25, attributes := #[] }])
  fields := #[{ name := "U", type := (.object "jdk/internal/misc/Unsafe"), accessFlags := 24, slot := 0, constantValue := 0 }, { name := "BIG_ENDIAN", type := .boolean, accessFlags := 26, slot := 1, constantValue := 0 }, { name := "LOG2_ARRAY_BOOLEAN_INDEX_SCALE", type := .int, accessFlags := 25, slot := 2, constantValue := 0 }, { name := "LOG2_ARRAY_BYTE_INDEX_SCALE", type := .int, accessFlags := 25, slot := 3, constantValue := 0 }, { name := "LOG2_ARRAY_CHAR_INDEX_SCALE", type := .int, accessFlags := 25, slot := 4, constantValue := 0 }, { name := "LOG2_ARRAY_SHORT_INDEX_SCALE", type := .int, accessFlags := 25, slot := 5, constantValue := 0 }, { name := "LOG2_ARRAY_INT_INDEX_SCALE", type := .int, accessFlags := 25, slot := 6, constantValue := 0 }, { name := "LOG2_ARRAY_LONG_INDEX_SCALE", type := .int, accessFlags := 25, slot := 7, constantValue := 0 }, { name := "LOG2_ARRAY_FLOAT_INDEX_SCALE", type := .int, accessFlags := 25, slot := 8, constantValue := 0 }, { name := "LOG2_ARRAY_DOUBLE_INDEX_SCALE", type := .int, accessFlags := 25, slot := 9, constantValue := 0 }, { name := "LOG2_BYTE_BIT_SIZE", type := .int, accessFlags := 26, slot := 10, constantValue := 0 }, { name := "T_BOOLEAN", type := .int, accessFlags := 25, slot := 11, constantValue := 0 }, { name := "T_CHAR", type := .int, accessFlags := 25, slot := 12, constantValue := 0 }, { name := "T_FLOAT", type := .int, accessFlags := 25, slot := 13, constantValue := 0 }, { name := "T_DOUBLE", type := .int, accessFlags := 25, slot := 14, constantValue := 0 }, { name := "T_BYTE", type := .int, accessFlags := 25, slot := 15, constantValue := 0 }, { name := "T_SHORT", type := .int, accessFlags := 25, slot := 16, constantValue := 0 }, { name := "T_INT", type := .int, accessFlags := 25, slot := 17, constantValue := 0 }, { name := "T_LONG", type := .int, accessFlags := 25, slot := 18, constantValue := 0 }, { name := "JLA", type := (.object "jdk/internal/access/JavaLangAccess"), accessFlags := 26, slot := 19, constantValue := 0 }, { name := "SOFT_MAX_ARRAY_LENGTH", type := .int, accessFlags := 25, slot := 20, constantValue := 0 }]
  methods := #[k12m0]
  instanceTypes := #[]
  staticTypes := #[(.object "jdk/internal/misc/Unsafe"), .boolean, .int, .int, .int, .int, .int, .int, .int, .int, .int, .int, .int, .int, .int, .int, .int, .int, .int, (.object "jdk/internal/access/JavaLangAccess"), .int]
  resolved := Array.replicate 378 none
  statics := none }

def pool13 : Array CpInfo := pool [(1, u "java/lang/Cloneable"), (0, .class_ 1), (0, u "java/lang/Object"), (0, .class_ 3)] 3

/-- java/lang/Cloneable -/
def k13 : Class := { plain "java/lang/Cloneable" (some 0) with
  accessFlags := 1537
  interfaces := #[]
  cf := some (fileOf pool13 2 #[] #[] 1537 4 #[] #[])
  fields := #[]
  methods := #[]
  instanceTypes := #[]
  staticTypes := #[]
  resolved := Array.replicate 8 none
  statics := none }

/-- the primitive byte -/
def k14 : Class := { plain "byte" none with kind := .primitive 'B', accessFlags := 0x411 }
/-- [B -/
def k15 : Class := { plain "[B" (some 0) with kind := .array 14 .byte, interfaces := #[13, 2], accessFlags := 1041 }

/-- the primitive char -/
def k16 : Class := { plain "char" none with kind := .primitive 'C', accessFlags := 0x411 }
/-- [C -/
def k17 : Class := { plain "[C" (some 0) with kind := .array 16 .char, interfaces := #[13, 2], accessFlags := 1041 }

/-- the primitive int -/
def k18 : Class := { plain "int" none with kind := .primitive 'I', accessFlags := 0x411 }
/-- [I -/
def k19 : Class := { plain "[I" (some 0) with kind := .array 18 .int, interfaces := #[13, 2], accessFlags := 1041 }

def heap : Heap := #[{ cls := 7, slots := #[.long 0, .int 1, .null, .int 0, .null, .int 0, .int 0], vm := .statics 7 },
  { cls := 11, slots := #[.null, .null, .null], vm := .statics 11 }]
def classes : Array Class := #[k0, k1, k2, k3, k4, k5, k6, k7, k8, k9, k10, k11, k12, k13, k14, k15, k16, k17, k18, k19]
def interned : List (Array UInt16 × Addr) := []
def slotsUsed : Nat := 10
def theMethod : MethodId := ⟨1, 2⟩
def args0 : Array Value := #[.int 5, .int 6, .long 7, .int 8, .int 9, .long 3]
def aboutOver (below : List Frame) : State where
  vm := { classes := classes, interned := interned.toArray }
  heap := heap
  slotsUsed := slotsUsed
  threads := #[{ frames := .invoking theMethod args0 :: below }]
def below0 : List Frame := [.native { method := ⟨0, 0⟩, args := #[] }]
def about1 : State := aboutOver below0
def p0 : Program := .bare "" "" ""
def e0 : Env := launch0.env 0 0 0
theorem w_frames : about1.frames = Frame.invoking theMethod args0 :: below0 := rfl
set_option maxRecDepth 65536 in
theorem w_args : argsFit about1.vm theMethod args0 = true := by decide +kernel
set_option maxRecDepth 65536 in
theorem w_heap : heapFits about1 = true := by decide +kernel
set_option maxRecDepth 65536 in
theorem w_runnable : about1.curStatus? = some .runnable := by decide +kernel
set_option maxRecDepth 65536 in
theorem w_alone : about1.alone = true := by decide +kernel
set_option maxRecDepth 65536 in
theorem w_named : about1.methodNamed? x = some theMethod := by decide +kernel
set_option maxRecDepth 65536 in
theorem w_hears : about1.hears theMethod below0 = true := by decide +kernel
set_option maxRecDepth 65536 in
theorem w_ripe : about1.ripe theMethod args0 below0 = true := by decide +kernel
theorem w_running : about1.status = .running := rfl
set_option maxRecDepth 65536 in
theorem w_room : about1.hasRoom e0.platform room_1 = true :=
  launch0.hasRoom_least _ room_1 (by decide +kernel) (by decide +kernel) (by decide +kernel) (by decide +kernel) (by decide +kernel) (by decide +kernel)
theorem allAtoms_all (ts : List Jvm.Cond) (a : Array Jvm.Value) (st : Jvm.State) : (allAtoms ts).before a st = ts.all (fun c => c.before a st) := by
  induction ts with
  | nil => rfl
  | cons c t ih =>
    show (Jvm.Cond.and c (allAtoms t)).before a st = _
    rw [Jvm.Cond.before_and, ih, List.all_cons]
def words1 : List Jvm.Cond := Jvm.Cond.code x code maxLocals ret :: tables_1
/-- a 'code' word, met by the world's own term for the bytes: nothing is compared byte by byte -/
theorem code_word {y : MethodName} {bytes : ByteArray} {mx : Nat} {rt : Option FieldType} {a : Array Value} {s : State} {m : MethodId} {meth : Method} {c : Code} (h1 : s.methodNamed? y = some m) (h2 : s.vm.method? m = some meth) (h3 : meth.code = some c) (h4 : c.code = bytes)
    (h5 : (c.maxLocals == mx && c.exceptionTable.isEmpty && decide (c.maxStack ≤ mostOperands) && decide (meth.sig.returnType = rt) && !meth.locks && decide (parseMethodDescriptor y.desc = some meth.sig)) = true) : (Jvm.Cond.code y bytes mx rt).before a s = true := by
  simp only [Bool.and_eq_true, beq_iff_eq, Bool.not_eq_true', decide_eq_true_eq] at h5
  obtain ⟨⟨⟨⟨⟨g1, g2⟩, g3⟩, g4⟩, g5⟩, g6⟩ := h5
  simp [Cond.before, Cond.holds, Cond.value, h1, h2, h3, h4, g1, g2, g3, g4, g5, g6]
def isCode : Jvm.Cond → Bool
  | .code _ _ _ _ => true
  | _ => false
theorem all_split {L : List Jvm.Cond} {P : Jvm.Cond → Bool} (h1 : L.all (fun c => isCode c || P c) = true) (h2 : ∀ c ∈ L.filter isCode, P c = true) : L.all P = true := by
  refine List.all_eq_true.mpr fun c hc => ?_
  have h := List.all_eq_true.mp h1 c hc
  rcases Bool.eq_false_or_eq_true (isCode c) with hi | hi
  · exact h2 c (List.mem_filter.mpr ⟨hc, hi⟩)
  · simpa [hi] using h
set_option maxRecDepth 65536 in
theorem w_c0 : (Jvm.Cond.code x code maxLocals ret).before args0 about1 = true := code_word (m := ⟨1, 2⟩) (meth := k1m2) (c := k1c2) (by decide +kernel) rfl rfl rfl (by decide +kernel)
set_option maxRecDepth 65536 in
theorem w_c1 : (Jvm.Cond.code ({ cls := "com/example/useful_few/usefulfew/engine/PostEqualsPinLaw", name := "mk", desc := "(ICC)Ljava/lang/String;" } : Jvm.MethodName) method_2_code (4 : Nat) (Option.some (Jvm.ClassFile.FieldType.object "java/lang/String"))).before args0 about1 = true := code_word (m := ⟨1, 1⟩) (meth := k1m1) (c := k1c1) (by decide +kernel) rfl rfl rfl (by decide +kernel)
set_option maxRecDepth 65536 in
theorem w_c2 : (Jvm.Cond.code ({ cls := "java/lang/String", name := "<init>", desc := "([C)V" } : Jvm.MethodName) jdk_42_method_3_code (2 : Nat) (Option.none : Option Jvm.ClassFile.FieldType)).before args0 about1 = true := code_word (m := ⟨7, 1⟩) (meth := k7m1) (c := k7c1) (by decide +kernel) rfl rfl rfl (by decide +kernel)
set_option maxRecDepth 65536 in
theorem w_c3 : (Jvm.Cond.code ({ cls := "java/lang/String", name := "<init>", desc := "([CIILjava/lang/Void;)V" } : Jvm.MethodName) jdk_42_method_149_code (6 : Nat) (Option.none : Option Jvm.ClassFile.FieldType)).before args0 about1 = true := code_word (m := ⟨7, 4⟩) (meth := k7m4) (c := k7c4) (by decide +kernel) rfl rfl rfl (by decide +kernel)
set_option maxRecDepth 65536 in
theorem w_c4 : (Jvm.Cond.code ({ cls := "java/lang/Object", name := "<init>", desc := "()V" } : Jvm.MethodName) object_method_1_code (1 : Nat) (Option.none : Option Jvm.ClassFile.FieldType)).before args0 about1 = true := code_word (m := ⟨0, 0⟩) (meth := k0m0) (c := k0c0) (by decide +kernel) rfl rfl rfl (by decide +kernel)
set_option maxRecDepth 65536 in
theorem w_c5 : (Jvm.Cond.code ({ cls := "com/example/useful_few/usefulfew/engine/Post", name := "<init>", desc := "(Ljava/lang/String;IJI)V" } : Jvm.MethodName) prog_19_method_1_code (6 : Nat) (Option.none : Option Jvm.ClassFile.FieldType)).before args0 about1 = true := code_word (m := ⟨8, 0⟩) (meth := k8m0) (c := k8c0) (by decide +kernel) rfl rfl rfl (by decide +kernel)
set_option maxRecDepth 65536 in
theorem w_c6 : (Jvm.Cond.code ({ cls := "com/example/useful_few/usefulfew/engine/Post", name := "equals", desc := "(Ljava/lang/Object;)Z" } : Jvm.MethodName) prog_19_method_6_code (3 : Nat) (Option.some Jvm.ClassFile.FieldType.boolean)).before args0 about1 = true := code_word (m := ⟨8, 1⟩) (meth := k8m1) (c := k8c1) (by decide +kernel) rfl rfl rfl (by decide +kernel)
set_option maxRecDepth 65536 in
theorem w_c7 : (Jvm.Cond.code ({ cls := "java/lang/String", name := "equals", desc := "(Ljava/lang/Object;)Z" } : Jvm.MethodName) jdk_42_method_66_code (3 : Nat) (Option.some Jvm.ClassFile.FieldType.boolean)).before args0 about1 = true := code_word (m := ⟨7, 2⟩) (meth := k7m2) (c := k7c2) (by decide +kernel) rfl rfl rfl (by decide +kernel)
set_option maxRecDepth 65536 in
theorem w_c8 : (Jvm.Cond.code ({ cls := "java/lang/StringLatin1", name := "equals", desc := "([B[B)Z" } : Jvm.MethodName) jdk_43_method_13_code (3 : Nat) (Option.some Jvm.ClassFile.FieldType.boolean)).before args0 about1 = true := code_word (m := ⟨9, 2⟩) (meth := k9m2) (c := k9c2) (by decide +kernel) rfl rfl rfl (by decide +kernel)
set_option maxRecDepth 65536 in
theorem w_c9 : (Jvm.Cond.code ({ cls := "java/lang/String", name := "valueOf", desc := "(C)Ljava/lang/String;" } : Jvm.MethodName) jdk_42_method_139_code (1 : Nat) (Option.some (Jvm.ClassFile.FieldType.object "java/lang/String"))).before args0 about1 = true := code_word (m := ⟨7, 3⟩) (meth := k7m3) (c := k7c3) (by decide +kernel) rfl rfl rfl (by decide +kernel)
set_option maxRecDepth 65536 in
theorem w_c10 : (Jvm.Cond.code ({ cls := "java/lang/StringLatin1", name := "canEncode", desc := "(C)Z" } : Jvm.MethodName) jdk_43_method_3_code (1 : Nat) (Option.some Jvm.ClassFile.FieldType.boolean)).before args0 about1 = true := code_word (m := ⟨9, 1⟩) (meth := k9m1) (c := k9c1) (by decide +kernel) rfl rfl rfl (by decide +kernel)
set_option maxRecDepth 65536 in
theorem w_c11 : (Jvm.Cond.code ({ cls := "java/lang/StringLatin1", name := "toBytes", desc := "(C)[B" } : Jvm.MethodName) jdk_43_method_46_code (1 : Nat) (Option.some (Jvm.ClassFile.FieldType.array Jvm.ClassFile.FieldType.byte))).before args0 about1 = true := code_word (m := ⟨9, 3⟩) (meth := k9m3) (c := k9c3) (by decide +kernel) rfl rfl rfl (by decide +kernel)
set_option maxRecDepth 65536 in
theorem w_c12 : (Jvm.Cond.code ({ cls := "java/lang/String", name := "<init>", desc := "([BB)V" } : Jvm.MethodName) jdk_42_method_151_code (3 : Nat) (Option.none : Option Jvm.ClassFile.FieldType)).before args0 about1 = true := code_word (m := ⟨7, 5⟩) (meth := k7m5) (c := k7c5) (by decide +kernel) rfl rfl rfl (by decide +kernel)
set_option maxRecDepth 65536 in
theorem w_c13 : (Jvm.Cond.code ({ cls := "java/lang/StringUTF16", name := "compress", desc := "([CII)[B" } : Jvm.MethodName) jdk_52_method_16_code (6 : Nat) (Option.some (Jvm.ClassFile.FieldType.array Jvm.ClassFile.FieldType.byte))).before args0 about1 = true := code_word (m := ⟨10, 2⟩) (meth := k10m2) (c := k10c2) (by decide +kernel) rfl rfl rfl (by decide +kernel)
set_option maxRecDepth 65536 in
theorem w_c14 : (Jvm.Cond.code ({ cls := "java/lang/StringUTF16", name := "compress", desc := "([CI[BII)I" } : Jvm.MethodName) jdk_52_method_21_code (7 : Nat) (Option.some Jvm.ClassFile.FieldType.int)).before args0 about1 = true := code_word (m := ⟨10, 3⟩) (meth := k10m3) (c := k10c3) (by decide +kernel) rfl rfl rfl (by decide +kernel)
set_option maxRecDepth 65536 in
theorem w_c15 : (Jvm.Cond.code ({ cls := "java/lang/StringUTF16", name := "coderFromArrayLen", desc := "([BI)B" } : Jvm.MethodName) jdk_52_method_15_code (2 : Nat) (Option.some Jvm.ClassFile.FieldType.byte)).before args0 about1 = true := code_word (m := ⟨10, 1⟩) (meth := k10m1) (c := k10c1) (by decide +kernel) rfl rfl rfl (by decide +kernel)
def codes1 : List Jvm.Cond := [Jvm.Cond.code x code maxLocals ret, Jvm.Cond.code ({ cls := "com/example/useful_few/usefulfew/engine/PostEqualsPinLaw", name := "mk", desc := "(ICC)Ljava/lang/String;" } : Jvm.MethodName) method_2_code (4 : Nat) (Option.some (Jvm.ClassFile.FieldType.object "java/lang/String")), Jvm.Cond.code ({ cls := "java/lang/String", name := "<init>", desc := "([C)V" } : Jvm.MethodName) jdk_42_method_3_code (2 : Nat) (Option.none : Option Jvm.ClassFile.FieldType), Jvm.Cond.code ({ cls := "java/lang/String", name := "<init>", desc := "([CIILjava/lang/Void;)V" } : Jvm.MethodName) jdk_42_method_149_code (6 : Nat) (Option.none : Option Jvm.ClassFile.FieldType), Jvm.Cond.code ({ cls := "java/lang/Object", name := "<init>", desc := "()V" } : Jvm.MethodName) object_method_1_code (1 : Nat) (Option.none : Option Jvm.ClassFile.FieldType), Jvm.Cond.code ({ cls := "com/example/useful_few/usefulfew/engine/Post", name := "<init>", desc := "(Ljava/lang/String;IJI)V" } : Jvm.MethodName) prog_19_method_1_code (6 : Nat) (Option.none : Option Jvm.ClassFile.FieldType), Jvm.Cond.code ({ cls := "com/example/useful_few/usefulfew/engine/Post", name := "equals", desc := "(Ljava/lang/Object;)Z" } : Jvm.MethodName) prog_19_method_6_code (3 : Nat) (Option.some Jvm.ClassFile.FieldType.boolean), Jvm.Cond.code ({ cls := "java/lang/String", name := "equals", desc := "(Ljava/lang/Object;)Z" } : Jvm.MethodName) jdk_42_method_66_code (3 : Nat) (Option.some Jvm.ClassFile.FieldType.boolean), Jvm.Cond.code ({ cls := "java/lang/StringLatin1", name := "equals", desc := "([B[B)Z" } : Jvm.MethodName) jdk_43_method_13_code (3 : Nat) (Option.some Jvm.ClassFile.FieldType.boolean), Jvm.Cond.code ({ cls := "java/lang/String", name := "valueOf", desc := "(C)Ljava/lang/String;" } : Jvm.MethodName) jdk_42_method_139_code (1 : Nat) (Option.some (Jvm.ClassFile.FieldType.object "java/lang/String")), Jvm.Cond.code ({ cls := "java/lang/StringLatin1", name := "canEncode", desc := "(C)Z" } : Jvm.MethodName) jdk_43_method_3_code (1 : Nat) (Option.some Jvm.ClassFile.FieldType.boolean), Jvm.Cond.code ({ cls := "java/lang/StringLatin1", name := "toBytes", desc := "(C)[B" } : Jvm.MethodName) jdk_43_method_46_code (1 : Nat) (Option.some (Jvm.ClassFile.FieldType.array Jvm.ClassFile.FieldType.byte)), Jvm.Cond.code ({ cls := "java/lang/String", name := "<init>", desc := "([BB)V" } : Jvm.MethodName) jdk_42_method_151_code (3 : Nat) (Option.none : Option Jvm.ClassFile.FieldType), Jvm.Cond.code ({ cls := "java/lang/StringUTF16", name := "compress", desc := "([CII)[B" } : Jvm.MethodName) jdk_52_method_16_code (6 : Nat) (Option.some (Jvm.ClassFile.FieldType.array Jvm.ClassFile.FieldType.byte)), Jvm.Cond.code ({ cls := "java/lang/StringUTF16", name := "compress", desc := "([CI[BII)I" } : Jvm.MethodName) jdk_52_method_21_code (7 : Nat) (Option.some Jvm.ClassFile.FieldType.int), Jvm.Cond.code ({ cls := "java/lang/StringUTF16", name := "coderFromArrayLen", desc := "([BI)B" } : Jvm.MethodName) jdk_52_method_15_code (2 : Nat) (Option.some Jvm.ClassFile.FieldType.byte)]
set_option maxRecDepth 65536 in
theorem codes_eq : words1.filter isCode = codes1 := rfl
theorem w_codes : ∀ c ∈ words1.filter isCode, c.before args0 about1 = true := by
  rw [codes_eq]
  intro c hc
  simp only [codes1, List.mem_cons, List.not_mem_nil, or_false] at hc
  rcases hc with rfl | rfl | rfl | rfl | rfl | rfl | rfl | rfl | rfl | rfl | rfl | rfl | rfl | rfl | rfl | rfl
  · exact w_c0
  · exact w_c1
  · exact w_c2
  · exact w_c3
  · exact w_c4
  · exact w_c5
  · exact w_c6
  · exact w_c7
  · exact w_c8
  · exact w_c9
  · exact w_c10
  · exact w_c11
  · exact w_c12
  · exact w_c13
  · exact w_c14
  · exact w_c15
set_option maxRecDepth 65536 in
theorem w_t1 : (words1.take 24).all (fun c => isCode c || c.before args0 about1) = true := by decide +kernel
set_option maxRecDepth 65536 in
theorem w_t2 : ((words1.drop 24).take 24).all (fun c => isCode c || c.before args0 about1) = true := by decide +kernel
set_option maxRecDepth 65536 in
theorem w_t3 : (((words1.drop 24).drop 24).take 24).all (fun c => isCode c || c.before args0 about1) = true := by decide +kernel
set_option maxRecDepth 65536 in
theorem w_t4 : (((words1.drop 24).drop 24).drop 24).all (fun c => isCode c || c.before args0 about1) = true := by decide +kernel
theorem w_tables : (allAtoms (Jvm.Cond.code x code maxLocals ret :: tables_1)).before args0 about1 = true := by
  rw [allAtoms_all]
  show words1.all (fun c => c.before args0 about1) = true
  refine all_split ?_ w_codes
  rw [← List.take_append_drop 24 words1, List.all_append, w_t1, ← List.take_append_drop 24 (words1.drop 24), List.all_append, w_t2, ← List.take_append_drop 24 ((words1.drop 24).drop 24), List.all_append, w_t3, w_t4]
  rfl
set_option maxRecDepth 65536 in
theorem w_rest : rest_1_c.before args0 about1 = true := by decide +kernel
set_option maxRecDepth 65536 in
theorem w_case : (Jvm.Cond.and given_1 narrow_1).before args0 about1 = true := by decide +kernel
set_option maxRecDepth 65536 in
theorem w_consts : constsHeld consts_1 about1 := Jvm.Lit.constsHeldB_iff.mp (by decide +kernel)
theorem w_applies : (headSpec (Jvm.Cond.code x code maxLocals ret :: tables_1) room_1).applies x e0.platform about1 = true :=
  (Spec.applies_iff w_frames).mpr ⟨w_running, w_runnable, w_alone, w_named, w_hears, w_ripe, w_room, w_tables⟩
theorem atStart : AtStart classFile x code maxLocals ret World_1 tables_1 room_1 Calls_1 rest_1 Pre_1 launch0 p0 e0 about1 theMethod args0 below0 :=
  ⟨lists_1, trivial, launch0.admits_env _ _ _, launch0.least_env, fairChoices_fair.cas, fairChoices_fair.clock, w_frames, w_args, w_heap, w_applies, ⟨w_consts, trivial⟩, w_rest, w_case⟩
end start1
theorem witness_1 : WitnessClaimed_1 := ⟨start1.p0, start1.e0, start1.about1, start1.theMethod, start1.args0, start1.below0, start1.atStart⟩
end Jvm.Pilot.@@N@@

import JvmDerived
import JvmDerived.Pilot.@@N@@Statement
import JvmDerived.Pilot.@@N@@Code
set_option linter.unusedVariables false
set_option linter.unusedSimpArgs false
namespace Jvm.Pilot.@@N@@.W
open Jvm Jvm.ClassFile Sem Op Lib Jvm.Free Jvm.Stand Jvm.LawKit Jvm.RoadKit Bundle

/-- the invocation comes to its end from (T, f): what it returns and the heap there are as G says; nothing below n0 is written; at most K cells, N slots are made -/
def Ends (p : Program) (e : Env) (below : List Frame) (Y : State → Outcome → List Loc → Prop) (n0 : Nat) (G : Option Value → Heap → Prop) (T : State) (f : JFrame) : Prop :=
  ∃ s₂ o, Steps p.tables e below (T.setTop f) s₂ ∧ s₂.status = .running ∧ Ended s₂ below o ∧ ∃ v L, o = .returned v ∧ (G v s₂.heap ∧ Fr n0 L) ∧ Y s₂ o L
/-- the walk stands in T, whose heap is h -/
def St (p : Program) (l : Launch) (e : Env) (R : Room) (s : State) (m : MethodId) (args : Array Value) (below : List Frame) (meth : Method) (c : Code) (n0 : Nat) (h : Heap) (k n : Nat) (T : State) : Prop :=
  ∃ locs, Fr n0 locs ∧ Stand p l e R s m args below meth c T locs k n ∧ T.heap = h
/-- what stays through a walk: the machine, the tables of the start, the body, its class, what it returns -/
def Cx (p : Program) (s : State) (m : MethodId) (meth : Method) (c : Code) (Z : State) (n0 : Nat) (own : String) (bytes : ByteArray) (ml : Nat) (ret : Option FieldType) : Prop :=
  p.tables.exec = Jvm.exec ∧ Z.Warmed39 s.vm ∧ c.code = bytes ∧ c.maxLocals = ml ∧ s.vm.findClass own = some m.cls ∧ meth.sig.returnType = ret ∧ meth.locks = false ∧ n0 ≤ s.heap.size
/-- from every state that stands so, with the frame f on top, the invocation comes to its end -/
def Go (p : Program) (l : Launch) (e : Env) (R : Room) (s : State) (m : MethodId) (args : Array Value) (below : List Frame) (meth : Method) (c : Code) (Y : State → Outcome → List Loc → Prop) (n0 : Nat) (G : Option Value → Heap → Prop) (h : Heap) (k n : Nat) (f : JFrame) : Prop :=
  ∀ T, St p l e R s m args below meth c n0 h k n T → Ends p e below Y n0 G T f
/-- a body's contract -/
abbrev Con (l : Launch) (Z : State) (y : MethodName) (bytes : ByteArray) (ml : Nat) (ret : Option FieldType) (ws : List Cond) (rm : Room) (K N : Nat) (as : Array Value) (h0 : Heap) (n0 : Nat) (G : Option Value → Heap → Prop) : Prop :=
  MetFree l y (head1 (Cond.code y bytes ml ret :: ws) rm) (fun a U => a = as ∧ Z.Warmed39 U.vm ∧ U.heap = h0) (fun _ _ _ _ _ => True) (fun _ U o U' => ∃ v L, o = .returned v ∧ (G v U'.heap ∧ Fr n0 L) ∧ FrameEnd U o U' L K N)

section Walk
variable {p : Program} {l : Launch} {e : Env} {R : Room} {s : State} {m : MethodId} {args : Array Value} {below : List Frame} {meth : Method} {c : Code} {K N n0 k n : Nat} {G : Option Value → Heap → Prop} {Y : State → Outcome → List Loc → Prop}
  {Z : State} {a0 : Array Value} {own : String} {bytes : ByteArray} {ml : Nat} {ret : Option FieldType} {Ls Ls' : Array Slot} {S : List Value} {pc pc' pn : Nat} {h h' : Heap}

theorem step {T T' : State} {f f' : JFrame} (q : ∀ target, Steps p.tables e below (T'.setTop f') target → Steps p.tables e below (T.setTop f) target) (g : Ends p e below Y n0 G T' f') : Ends p e below Y n0 G T f := by
  obtain ⟨s₂, o, h1, h2⟩ := g
  exact ⟨s₂, o, q _ h1, h2⟩
theorem stepG {f f' : JFrame} (q : ∀ T locs, Stand p l e R s m args below meth c T locs k n → T.heap = h → ∀ target, Steps p.tables e below (T.setTop f') target → Steps p.tables e below (T.setTop f) target)
    (g : Go p l e R s m args below meth c Y n0 G h k n f') : Go p l e R s m args below meth c Y n0 G h k n f := fun T ⟨locs, F, X, eT⟩ => step (q T locs X eT) (g T ⟨locs, F, X, eT⟩)
theorem Go.mono {f : JFrame} {k2 n2 : Nat} (g : Go p l e R s m args below meth c Y n0 G h k2 n2 f) (h1 : k ≤ k2) (h2 : n ≤ n2) : Go p l e R s m args below meth c Y n0 G h k n f := fun T ⟨locs, F, X, eT⟩ =>
  g T ⟨locs, F, ⟨X.admits, X.cas, X.clock, X.frames, X.room, X.hears, X.method, X.code, X.here, X.tail, X.warmed, X.limits, X.bytes, X.same.mono h1 h2⟩, eT⟩
theorem Go.castF {f f' : JFrame} (q : f = f') (g : Go p l e R s m args below meth c Y n0 G h k n f') : Go p l e R s m args below meth c Y n0 G h k n f := q ▸ g

/-- entering -/
theorem enter {y : MethodName} {as : Array Value} {ws : List Cond} {rm : Room} {h0 : Heap} (hp : plainFor y = true) (Z0 : n0 ≤ h0.size)
    (body : ∀ p e s m below meth c, Cx p s m meth c Z n0 y.cls bytes ml ret → meth.name = y.name → s.heap = h0 → Go p l e rm s m as below meth c (fun s₂ o L => FrameEnd s o s₂ L K N) n0 G h0 0 0 (entryFrame m as ml)) : Con l Z y bytes ml ret ws rm K N as h0 n0 G := by
  refine MetFree.of_bodySF hp hisR ?_
  intro p e s m args below meth c s₁ Bd hml0 hP hK
  obtain ⟨rfl, hZ, hh⟩ := hP
  have X0 : Stand p l e rm s m args below meth c s₁ [] 0 0 := Stand.of_body Bd
  have e0 : s₁.heap = h0 := by rw [← hh, Bd.state]; rfl
  obtain ⟨s₂, o, h1, h2, h3, h4⟩ := body p e s m below meth c ⟨Bd.exec, hZ, Bd.bytes, hml0, findClass_of_methodNamed Bd.named, Bd.returns, Bd.notSynchronized, by rw [hh]; exact Z0⟩ (name_of_methodNamed Bd.named Bd.method).1 hh s₁ ⟨[], Fr.nil _, X0, e0⟩
  exact ⟨s₂, o, h1, h2, h3, h4⟩

/-! loads, stores, constants -/
theorem iloadN (C : Cx p s m meth c Z n0 own bytes ml ret) {i : Fin 4} {v : Int32} (hd : decode bytes pc = .ok (.iload_n i, 1)) (hp : pc + 1 = pc') (hl : Ls[i.val]? = some (.val (.int v)))
    (g : Go p l e R s m args below meth c Y n0 G h k n (mkF m pc' Ls (.int v :: S))) : Go p l e R s m args below meth c Y n0 G h k n (mkF m pc Ls S) := by
  subst hp; exact stepG (fun T locs X _ _ q => XS.iloadN X.here C.1 rfl (hb C.2.2.1 hd) hl q) g
theorem iload (C : Cx p s m meth c Z n0 own bytes ml ret) {i : Nat} {v : Int32} (hd : decode bytes pc = .ok (.iload i, 2)) (hp : pc + 2 = pc') (hl : Ls[i]? = some (.val (.int v)))
    (g : Go p l e R s m args below meth c Y n0 G h k n (mkF m pc' Ls (.int v :: S))) : Go p l e R s m args below meth c Y n0 G h k n (mkF m pc Ls S) := by
  subst hp; exact stepG (fun T locs X _ _ q => XS.iload X.here C.1 rfl (hb C.2.2.1 hd) hl q) g
theorem lloadN (C : Cx p s m meth c Z n0 own bytes ml ret) {i : Fin 4} {v : Int64} (hd : decode bytes pc = .ok (.lload_n i, 1)) (hp : pc + 1 = pc') (hl : Ls[i.val]? = some (.val (.long v)))
    (g : Go p l e R s m args below meth c Y n0 G h k n (mkF m pc' Ls (.long v :: S))) : Go p l e R s m args below meth c Y n0 G h k n (mkF m pc Ls S) := by
  subst hp; exact stepG (fun T locs X _ _ q => XS.lloadN X.here C.1 rfl (hb C.2.2.1 hd) hl q) g
theorem lload (C : Cx p s m meth c Z n0 own bytes ml ret) {i : Nat} {v : Int64} (hd : decode bytes pc = .ok (.lload i, 2)) (hp : pc + 2 = pc') (hl : Ls[i]? = some (.val (.long v)))
    (g : Go p l e R s m args below meth c Y n0 G h k n (mkF m pc' Ls (.long v :: S))) : Go p l e R s m args below meth c Y n0 G h k n (mkF m pc Ls S) := by
  subst hp; exact stepG (fun T locs X _ _ q => XS.lload X.here C.1 rfl (hb C.2.2.1 hd) hl q) g
theorem aloadN (C : Cx p s m meth c Z n0 own bytes ml ret) {i : Fin 4} {v : Value} (hd : decode bytes pc = .ok (.aload_n i, 1)) (hp : pc + 1 = pc') (hl : Ls[i.val]? = some (.val v)) (hv : v.isRef = true)
    (g : Go p l e R s m args below meth c Y n0 G h k n (mkF m pc' Ls (v :: S))) : Go p l e R s m args below meth c Y n0 G h k n (mkF m pc Ls S) := by
  subst hp; exact stepG (fun T locs X _ _ q => XS.aloadN X.here C.1 rfl (hb C.2.2.1 hd) hl hv q) g
theorem aload (C : Cx p s m meth c Z n0 own bytes ml ret) {i : Nat} {v : Value} (hd : decode bytes pc = .ok (.aload i, 2)) (hp : pc + 2 = pc') (hl : Ls[i]? = some (.val v)) (hv : v.isRef = true)
    (g : Go p l e R s m args below meth c Y n0 G h k n (mkF m pc' Ls (v :: S))) : Go p l e R s m args below meth c Y n0 G h k n (mkF m pc Ls S) := by
  subst hp; exact stepG (fun T locs X _ _ q => XS.aload X.here C.1 rfl (hb C.2.2.1 hd) hl hv q) g
theorem istoreN (C : Cx p s m meth c Z n0 own bytes ml ret) {i : Fin 4} {x : Int32} (hd : decode bytes pc = .ok (.istore_n i, 1)) (hp : pc + 1 = pc') (hl : storeLocals Ls i.val (.int x) = some Ls')
    (g : Go p l e R s m args below meth c Y n0 G h k n (mkF m pc' Ls' S)) : Go p l e R s m args below meth c Y n0 G h k n (mkF m pc Ls (.int x :: S)) := by
  subst hp; exact stepG (fun T locs X _ _ q => XS.istoreN X.here C.1 rfl (hb C.2.2.1 hd) rfl hl q) g
theorem istore (C : Cx p s m meth c Z n0 own bytes ml ret) {i : Nat} {x : Int32} (hd : decode bytes pc = .ok (.istore i, 2)) (hp : pc + 2 = pc') (hl : storeLocals Ls i (.int x) = some Ls')
    (g : Go p l e R s m args below meth c Y n0 G h k n (mkF m pc' Ls' S)) : Go p l e R s m args below meth c Y n0 G h k n (mkF m pc Ls (.int x :: S)) := by
  subst hp; exact stepG (fun T locs X _ _ q => XS.istore X.here C.1 rfl (hb C.2.2.1 hd) rfl hl q) g
theorem lstoreN (C : Cx p s m meth c Z n0 own bytes ml ret) {i : Fin 4} {x : Int64} (hd : decode bytes pc = .ok (.lstore_n i, 1)) (hp : pc + 1 = pc') (hl : storeLocals Ls i.val (.long x) = some Ls')
    (g : Go p l e R s m args below meth c Y n0 G h k n (mkF m pc' Ls' S)) : Go p l e R s m args below meth c Y n0 G h k n (mkF m pc Ls (.long x :: S)) := by
  subst hp; exact stepG (fun T locs X _ _ q => XS.lstoreN X.here C.1 rfl (hb C.2.2.1 hd) rfl hl q) g
theorem lstore (C : Cx p s m meth c Z n0 own bytes ml ret) {i : Nat} {x : Int64} (hd : decode bytes pc = .ok (.lstore i, 2)) (hp : pc + 2 = pc') (hl : storeLocals Ls i (.long x) = some Ls')
    (g : Go p l e R s m args below meth c Y n0 G h k n (mkF m pc' Ls' S)) : Go p l e R s m args below meth c Y n0 G h k n (mkF m pc Ls (.long x :: S)) := by
  subst hp; exact stepG (fun T locs X _ _ q => XS.lstore X.here C.1 rfl (hb C.2.2.1 hd) rfl hl q) g
theorem astoreN (C : Cx p s m meth c Z n0 own bytes ml ret) {i : Fin 4} {x : Value} (hd : decode bytes pc = .ok (.astore_n i, 1)) (hp : pc + 1 = pc') (hv : x.isRef = true) (hl : storeLocals Ls i.val x = some Ls')
    (g : Go p l e R s m args below meth c Y n0 G h k n (mkF m pc' Ls' S)) : Go p l e R s m args below meth c Y n0 G h k n (mkF m pc Ls (x :: S)) := by
  subst hp; exact stepG (fun T locs X _ _ q => XS.astoreN X.here C.1 rfl (hb C.2.2.1 hd) rfl hv hl q) g
theorem astore (C : Cx p s m meth c Z n0 own bytes ml ret) {i : Nat} {x : Value} (hd : decode bytes pc = .ok (.astore i, 2)) (hp : pc + 2 = pc') (hv : x.isRef = true) (hl : storeLocals Ls i x = some Ls')
    (g : Go p l e R s m args below meth c Y n0 G h k n (mkF m pc' Ls' S)) : Go p l e R s m args below meth c Y n0 G h k n (mkF m pc Ls (x :: S)) := by
  subst hp; exact stepG (fun T locs X _ _ q => XS.astore X.here C.1 rfl (hb C.2.2.1 hd) rfl hv hl q) g
theorem iconst (C : Cx p s m meth c Z n0 own bytes ml ret) {i : Int} {x : Int32} (hd : decode bytes pc = .ok (.iconst i, 1)) (hp : pc + 1 = pc') (hv : Int32.ofInt i = x)
    (g : Go p l e R s m args below meth c Y n0 G h k n (mkF m pc' Ls (.int x :: S))) : Go p l e R s m args below meth c Y n0 G h k n (mkF m pc Ls S) := by
  subst hp hv; exact stepG (fun T locs X _ _ q => XS.iconst X.here C.1 rfl (hb C.2.2.1 hd) q) g
theorem bipush (C : Cx p s m meth c Z n0 own bytes ml ret) {i : Int} {x : Int32} (hd : decode bytes pc = .ok (.bipush i, 2)) (hp : pc + 2 = pc') (hv : (Int8.ofInt i).toInt32 = x)
    (g : Go p l e R s m args below meth c Y n0 G h k n (mkF m pc' Ls (.int x :: S))) : Go p l e R s m args below meth c Y n0 G h k n (mkF m pc Ls S) := by
  subst hp hv; exact stepG (fun T locs X _ _ q => XS.bipush X.here C.1 rfl (hb C.2.2.1 hd) q) g
theorem sipush (C : Cx p s m meth c Z n0 own bytes ml ret) {i : Int} {x : Int32} (hd : decode bytes pc = .ok (.sipush i, 3)) (hp : pc + 3 = pc') (hv : (Int16.ofInt i).toInt32 = x)
    (g : Go p l e R s m args below meth c Y n0 G h k n (mkF m pc' Ls (.int x :: S))) : Go p l e R s m args below meth c Y n0 G h k n (mkF m pc Ls S) := by
  subst hp hv; exact stepG (fun T locs X _ _ q => XS.sipush X.here C.1 rfl (hb C.2.2.1 hd) q) g
theorem lconst (C : Cx p s m meth c Z n0 own bytes ml ret) {i : Fin 2} {x : Int64} (hd : decode bytes pc = .ok (.lconst i, 1)) (hp : pc + 1 = pc') (hv : Int64.ofNat i = x)
    (g : Go p l e R s m args below meth c Y n0 G h k n (mkF m pc' Ls (.long x :: S))) : Go p l e R s m args below meth c Y n0 G h k n (mkF m pc Ls S) := by
  subst hp hv; exact stepG (fun T locs X _ _ q => XS.lconst X.here C.1 rfl (hb C.2.2.1 hd) q) g
theorem aconst_null (C : Cx p s m meth c Z n0 own bytes ml ret) (hd : decode bytes pc = .ok (.aconst_null, 1)) (hp : pc + 1 = pc')
    (g : Go p l e R s m args below meth c Y n0 G h k n (mkF m pc' Ls (.null :: S))) : Go p l e R s m args below meth c Y n0 G h k n (mkF m pc Ls S) := by
  subst hp; exact stepG (fun T locs X _ _ q => XS.aconstNull X.here C.1 rfl (hb C.2.2.1 hd) q) g
theorem ldcI (C : Cx p s m meth c Z n0 own bytes ml ret) {i : Nat} {v : Int32} (w : (Cond.constant own i v).before a0 Z = true) (hd : decode bytes pc = .ok (.ldc i, 2)) (hp : pc + 2 = pc')
    (g : Go p l e R s m args below meth c Y n0 G h k n (mkF m pc' Ls (.int v :: S))) : Go p l e R s m args below meth c Y n0 G h k n (mkF m pc Ls S) := by
  subst hp; exact stepG (fun T locs X _ t q => X.ldcInt C.1 C.2.2.2.2.1 (mvT C.2.1 w) (g := mkF m pc Ls S) rfl (hb C.2.2.1 hd) t q) g
theorem ldcwI (C : Cx p s m meth c Z n0 own bytes ml ret) {i : Nat} {v : Int32} (w : (Cond.constant own i v).before a0 Z = true) (hd : decode bytes pc = .ok (.ldc_w i, 3)) (hp : pc + 3 = pc')
    (g : Go p l e R s m args below meth c Y n0 G h k n (mkF m pc' Ls (.int v :: S))) : Go p l e R s m args below meth c Y n0 G h k n (mkF m pc Ls S) := by
  subst hp; exact stepG (fun T locs X _ t q => X.ldcwInt C.1 C.2.2.2.2.1 (mvT C.2.1 w) (g := mkF m pc Ls S) rfl (hb C.2.2.1 hd) t q) g
theorem ldc2 (C : Cx p s m meth c Z n0 own bytes ml ret) {i : Nat} {v : Int64} (w : (Cond.constantLong own i v).before a0 Z = true) (hd : decode bytes pc = .ok (.ldc2_w i, 3)) (hp : pc + 3 = pc')
    (g : Go p l e R s m args below meth c Y n0 G h k n (mkF m pc' Ls (.long v :: S))) : Go p l e R s m args below meth c Y n0 G h k n (mkF m pc Ls S) := by
  subst hp; exact stepG (fun T locs X _ t q => X.ldc2Long C.1 C.2.2.2.2.1 (mvT C.2.1 w) (g := mkF m pc Ls S) rfl (hb C.2.2.1 hd) t q) g
theorem iadd (C : Cx p s m meth c Z n0 own bytes ml ret) {x y z : Int32} (hd : decode bytes pc = .ok (.iadd, 1)) (hp : pc + 1 = pc') (hv : x + y = z)
    (g : Go p l e R s m args below meth c Y n0 G h k n (mkF m pc' Ls (.int z :: S))) : Go p l e R s m args below meth c Y n0 G h k n (mkF m pc Ls (.int y :: .int x :: S)) := by
  subst hp hv; exact stepG (fun T locs X _ _ q => XS.iadd X.here C.1 rfl (hb C.2.2.1 hd) rfl q) g
theorem isub (C : Cx p s m meth c Z n0 own bytes ml ret) {x y z : Int32} (hd : decode bytes pc = .ok (.isub, 1)) (hp : pc + 1 = pc') (hv : x - y = z)
    (g : Go p l e R s m args below meth c Y n0 G h k n (mkF m pc' Ls (.int z :: S))) : Go p l e R s m args below meth c Y n0 G h k n (mkF m pc Ls (.int y :: .int x :: S)) := by
  subst hp hv; exact stepG (fun T locs X _ _ q => XS.isub X.here C.1 rfl (hb C.2.2.1 hd) rfl q) g
theorem imul (C : Cx p s m meth c Z n0 own bytes ml ret) {x y z : Int32} (hd : decode bytes pc = .ok (.imul, 1)) (hp : pc + 1 = pc') (hv : x * y = z)
    (g : Go p l e R s m args below meth c Y n0 G h k n (mkF m pc' Ls (.int z :: S))) : Go p l e R s m args below meth c Y n0 G h k n (mkF m pc Ls (.int y :: .int x :: S)) := by
  subst hp hv; exact stepG (fun T locs X _ _ q => XS.imul X.here C.1 rfl (hb C.2.2.1 hd) rfl q) g
theorem iand (C : Cx p s m meth c Z n0 own bytes ml ret) {x y z : Int32} (hd : decode bytes pc = .ok (.iand, 1)) (hp : pc + 1 = pc') (hv : x &&& y = z)
    (g : Go p l e R s m args below meth c Y n0 G h k n (mkF m pc' Ls (.int z :: S))) : Go p l e R s m args below meth c Y n0 G h k n (mkF m pc Ls (.int y :: .int x :: S)) := by
  subst hp hv; exact stepG (fun T locs X _ _ q => XS.iand X.here C.1 rfl (hb C.2.2.1 hd) rfl q) g
theorem ior (C : Cx p s m meth c Z n0 own bytes ml ret) {x y z : Int32} (hd : decode bytes pc = .ok (.ior, 1)) (hp : pc + 1 = pc') (hv : x ||| y = z)
    (g : Go p l e R s m args below meth c Y n0 G h k n (mkF m pc' Ls (.int z :: S))) : Go p l e R s m args below meth c Y n0 G h k n (mkF m pc Ls (.int y :: .int x :: S)) := by
  subst hp hv; exact stepG (fun T locs X _ _ q => XS.ior X.here C.1 rfl (hb C.2.2.1 hd) rfl q) g
theorem ixor (C : Cx p s m meth c Z n0 own bytes ml ret) {x y z : Int32} (hd : decode bytes pc = .ok (.ixor, 1)) (hp : pc + 1 = pc') (hv : x ^^^ y = z)
    (g : Go p l e R s m args below meth c Y n0 G h k n (mkF m pc' Ls (.int z :: S))) : Go p l e R s m args below meth c Y n0 G h k n (mkF m pc Ls (.int y :: .int x :: S)) := by
  subst hp hv; exact stepG (fun T locs X _ _ q => XS.ixor X.here C.1 rfl (hb C.2.2.1 hd) rfl q) g
theorem ladd (C : Cx p s m meth c Z n0 own bytes ml ret) {x y z : Int64} (hd : decode bytes pc = .ok (.ladd, 1)) (hp : pc + 1 = pc') (hv : x + y = z)
    (g : Go p l e R s m args below meth c Y n0 G h k n (mkF m pc' Ls (.long z :: S))) : Go p l e R s m args below meth c Y n0 G h k n (mkF m pc Ls (.long y :: .long x :: S)) := by
  subst hp hv; exact stepG (fun T locs X _ _ q => XS.ladd X.here C.1 rfl (hb C.2.2.1 hd) rfl q) g
theorem lsub (C : Cx p s m meth c Z n0 own bytes ml ret) {x y z : Int64} (hd : decode bytes pc = .ok (.lsub, 1)) (hp : pc + 1 = pc') (hv : x - y = z)
    (g : Go p l e R s m args below meth c Y n0 G h k n (mkF m pc' Ls (.long z :: S))) : Go p l e R s m args below meth c Y n0 G h k n (mkF m pc Ls (.long y :: .long x :: S)) := by
  subst hp hv; exact stepG (fun T locs X _ _ q => XS.lsub X.here C.1 rfl (hb C.2.2.1 hd) rfl q) g
theorem lmul (C : Cx p s m meth c Z n0 own bytes ml ret) {x y z : Int64} (hd : decode bytes pc = .ok (.lmul, 1)) (hp : pc + 1 = pc') (hv : x * y = z)
    (g : Go p l e R s m args below meth c Y n0 G h k n (mkF m pc' Ls (.long z :: S))) : Go p l e R s m args below meth c Y n0 G h k n (mkF m pc Ls (.long y :: .long x :: S)) := by
  subst hp hv; exact stepG (fun T locs X _ _ q => XS.lmul X.here C.1 rfl (hb C.2.2.1 hd) rfl q) g
theorem land (C : Cx p s m meth c Z n0 own bytes ml ret) {x y z : Int64} (hd : decode bytes pc = .ok (.land, 1)) (hp : pc + 1 = pc') (hv : x &&& y = z)
    (g : Go p l e R s m args below meth c Y n0 G h k n (mkF m pc' Ls (.long z :: S))) : Go p l e R s m args below meth c Y n0 G h k n (mkF m pc Ls (.long y :: .long x :: S)) := by
  subst hp hv; exact stepG (fun T locs X _ _ q => XS.land X.here C.1 rfl (hb C.2.2.1 hd) rfl q) g
theorem lor (C : Cx p s m meth c Z n0 own bytes ml ret) {x y z : Int64} (hd : decode bytes pc = .ok (.lor, 1)) (hp : pc + 1 = pc') (hv : x ||| y = z)
    (g : Go p l e R s m args below meth c Y n0 G h k n (mkF m pc' Ls (.long z :: S))) : Go p l e R s m args below meth c Y n0 G h k n (mkF m pc Ls (.long y :: .long x :: S)) := by
  subst hp hv; exact stepG (fun T locs X _ _ q => XS.lor X.here C.1 rfl (hb C.2.2.1 hd) rfl q) g
theorem lxor (C : Cx p s m meth c Z n0 own bytes ml ret) {x y z : Int64} (hd : decode bytes pc = .ok (.lxor, 1)) (hp : pc + 1 = pc') (hv : x ^^^ y = z)
    (g : Go p l e R s m args below meth c Y n0 G h k n (mkF m pc' Ls (.long z :: S))) : Go p l e R s m args below meth c Y n0 G h k n (mkF m pc Ls (.long y :: .long x :: S)) := by
  subst hp hv; exact stepG (fun T locs X _ _ q => XS.lxor X.here C.1 rfl (hb C.2.2.1 hd) rfl q) g
theorem ishl (C : Cx p s m meth c Z n0 own bytes ml ret) {x z : Int32} {y : Int32} (hd : decode bytes pc = .ok (.ishl, 1)) (hp : pc + 1 = pc') (hv : (x <<< (y &&& 31)) = z)
    (g : Go p l e R s m args below meth c Y n0 G h k n (mkF m pc' Ls (.int z :: S))) : Go p l e R s m args below meth c Y n0 G h k n (mkF m pc Ls (.int y :: .int x :: S)) := by
  subst hp hv; exact stepG (fun T locs X _ _ q => XS.ishl X.here C.1 rfl (hb C.2.2.1 hd) rfl q) g
theorem ishr (C : Cx p s m meth c Z n0 own bytes ml ret) {x z : Int32} {y : Int32} (hd : decode bytes pc = .ok (.ishr, 1)) (hp : pc + 1 = pc') (hv : (x >>> (y &&& 31)) = z)
    (g : Go p l e R s m args below meth c Y n0 G h k n (mkF m pc' Ls (.int z :: S))) : Go p l e R s m args below meth c Y n0 G h k n (mkF m pc Ls (.int y :: .int x :: S)) := by
  subst hp hv; exact stepG (fun T locs X _ _ q => XS.ishr X.here C.1 rfl (hb C.2.2.1 hd) rfl q) g
theorem iushr (C : Cx p s m meth c Z n0 own bytes ml ret) {x z : Int32} {y : Int32} (hd : decode bytes pc = .ok (.iushr, 1)) (hp : pc + 1 = pc') (hv : ((x).toUInt32 >>> (y &&& 31).toUInt32).toInt32 = z)
    (g : Go p l e R s m args below meth c Y n0 G h k n (mkF m pc' Ls (.int z :: S))) : Go p l e R s m args below meth c Y n0 G h k n (mkF m pc Ls (.int y :: .int x :: S)) := by
  subst hp hv; exact stepG (fun T locs X _ _ q => XS.iushr X.here C.1 rfl (hb C.2.2.1 hd) rfl q) g
theorem lshl (C : Cx p s m meth c Z n0 own bytes ml ret) {x z : Int64} {y : Int32} (hd : decode bytes pc = .ok (.lshl, 1)) (hp : pc + 1 = pc') (hv : (x <<< (y &&& 0x3f).toInt64) = z)
    (g : Go p l e R s m args below meth c Y n0 G h k n (mkF m pc' Ls (.long z :: S))) : Go p l e R s m args below meth c Y n0 G h k n (mkF m pc Ls (.int y :: .long x :: S)) := by
  subst hp hv; exact stepG (fun T locs X _ _ q => XS.lshl X.here C.1 rfl (hb C.2.2.1 hd) rfl q) g
theorem lshr (C : Cx p s m meth c Z n0 own bytes ml ret) {x z : Int64} {y : Int32} (hd : decode bytes pc = .ok (.lshr, 1)) (hp : pc + 1 = pc') (hv : (x >>> (y &&& 0x3f).toInt64) = z)
    (g : Go p l e R s m args below meth c Y n0 G h k n (mkF m pc' Ls (.long z :: S))) : Go p l e R s m args below meth c Y n0 G h k n (mkF m pc Ls (.int y :: .long x :: S)) := by
  subst hp hv; exact stepG (fun T locs X _ _ q => XS.lshr X.here C.1 rfl (hb C.2.2.1 hd) rfl q) g
theorem lushr (C : Cx p s m meth c Z n0 own bytes ml ret) {x z : Int64} {y : Int32} (hd : decode bytes pc = .ok (.lushr, 1)) (hp : pc + 1 = pc') (hv : ((x).toUInt64 >>> (y &&& 0x3f).toInt64.toUInt64).toInt64 = z)
    (g : Go p l e R s m args below meth c Y n0 G h k n (mkF m pc' Ls (.long z :: S))) : Go p l e R s m args below meth c Y n0 G h k n (mkF m pc Ls (.int y :: .long x :: S)) := by
  subst hp hv; exact stepG (fun T locs X _ _ q => XS.lushr X.here C.1 rfl (hb C.2.2.1 hd) rfl q) g
theorem ineg (C : Cx p s m meth c Z n0 own bytes ml ret) {x : Int32} {z : Int32} (hd : decode bytes pc = .ok (.ineg, 1)) (hp : pc + 1 = pc') (hv : (-x) = z)
    (g : Go p l e R s m args below meth c Y n0 G h k n (mkF m pc' Ls (.int z :: S))) : Go p l e R s m args below meth c Y n0 G h k n (mkF m pc Ls (.int x :: S)) := by
  subst hp hv; exact stepG (fun T locs X _ _ q => XS.ineg X.here C.1 rfl (hb C.2.2.1 hd) rfl q) g
theorem lneg (C : Cx p s m meth c Z n0 own bytes ml ret) {x : Int64} {z : Int64} (hd : decode bytes pc = .ok (.lneg, 1)) (hp : pc + 1 = pc') (hv : (-x) = z)
    (g : Go p l e R s m args below meth c Y n0 G h k n (mkF m pc' Ls (.long z :: S))) : Go p l e R s m args below meth c Y n0 G h k n (mkF m pc Ls (.long x :: S)) := by
  subst hp hv; exact stepG (fun T locs X _ _ q => XS.lneg X.here C.1 rfl (hb C.2.2.1 hd) rfl q) g
theorem i2l (C : Cx p s m meth c Z n0 own bytes ml ret) {x : Int32} {z : Int64} (hd : decode bytes pc = .ok (.i2l, 1)) (hp : pc + 1 = pc') (hv : (x).toInt64 = z)
    (g : Go p l e R s m args below meth c Y n0 G h k n (mkF m pc' Ls (.long z :: S))) : Go p l e R s m args below meth c Y n0 G h k n (mkF m pc Ls (.int x :: S)) := by
  subst hp hv; exact stepG (fun T locs X _ _ q => XS.i2l X.here C.1 rfl (hb C.2.2.1 hd) rfl q) g
theorem l2i (C : Cx p s m meth c Z n0 own bytes ml ret) {x : Int64} {z : Int32} (hd : decode bytes pc = .ok (.l2i, 1)) (hp : pc + 1 = pc') (hv : (x).toInt32 = z)
    (g : Go p l e R s m args below meth c Y n0 G h k n (mkF m pc' Ls (.int z :: S))) : Go p l e R s m args below meth c Y n0 G h k n (mkF m pc Ls (.long x :: S)) := by
  subst hp hv; exact stepG (fun T locs X _ _ q => XS.l2i X.here C.1 rfl (hb C.2.2.1 hd) rfl q) g
theorem i2b (C : Cx p s m meth c Z n0 own bytes ml ret) {x : Int32} {z : Int32} (hd : decode bytes pc = .ok (.i2b, 1)) (hp : pc + 1 = pc') (hv : (x).toInt8.toInt32 = z)
    (g : Go p l e R s m args below meth c Y n0 G h k n (mkF m pc' Ls (.int z :: S))) : Go p l e R s m args below meth c Y n0 G h k n (mkF m pc Ls (.int x :: S)) := by
  subst hp hv; exact stepG (fun T locs X _ _ q => XS.i2b X.here C.1 rfl (hb C.2.2.1 hd) rfl q) g
theorem i2s (C : Cx p s m meth c Z n0 own bytes ml ret) {x : Int32} {z : Int32} (hd : decode bytes pc = .ok (.i2s, 1)) (hp : pc + 1 = pc') (hv : (x).toInt16.toInt32 = z)
    (g : Go p l e R s m args below meth c Y n0 G h k n (mkF m pc' Ls (.int z :: S))) : Go p l e R s m args below meth c Y n0 G h k n (mkF m pc Ls (.int x :: S)) := by
  subst hp hv; exact stepG (fun T locs X _ _ q => XS.i2s X.here C.1 rfl (hb C.2.2.1 hd) rfl q) g
theorem i2c (C : Cx p s m meth c Z n0 own bytes ml ret) {x : Int32} {z : Int32} (hd : decode bytes pc = .ok (.i2c, 1)) (hp : pc + 1 = pc') (hv : (x).toUInt32.toUInt16.toUInt32.toInt32 = z)
    (g : Go p l e R s m args below meth c Y n0 G h k n (mkF m pc' Ls (.int z :: S))) : Go p l e R s m args below meth c Y n0 G h k n (mkF m pc Ls (.int x :: S)) := by
  subst hp hv; exact stepG (fun T locs X _ _ q => XS.i2c X.here C.1 rfl (hb C.2.2.1 hd) rfl q) g
theorem idiv (C : Cx p s m meth c Z n0 own bytes ml ret) {x y z : Int32} (hd : decode bytes pc = .ok (.idiv, 1)) (hp : pc + 1 = pc') (hy : y ≠ 0) (hv : x / y = z)
    (g : Go p l e R s m args below meth c Y n0 G h k n (mkF m pc' Ls (.int z :: S))) : Go p l e R s m args below meth c Y n0 G h k n (mkF m pc Ls (.int y :: .int x :: S)) := by
  subst hp hv; exact stepG (fun T locs X _ _ q => XS.idiv X.here C.1 rfl (hb C.2.2.1 hd) rfl hy q) g
theorem ldiv (C : Cx p s m meth c Z n0 own bytes ml ret) {x y z : Int64} (hd : decode bytes pc = .ok (.ldiv, 1)) (hp : pc + 1 = pc') (hy : y ≠ 0) (hv : x / y = z)
    (g : Go p l e R s m args below meth c Y n0 G h k n (mkF m pc' Ls (.long z :: S))) : Go p l e R s m args below meth c Y n0 G h k n (mkF m pc Ls (.long y :: .long x :: S)) := by
  subst hp hv; exact stepG (fun T locs X _ _ q => XS.ldiv X.here C.1 rfl (hb C.2.2.1 hd) rfl hy q) g
theorem irem (C : Cx p s m meth c Z n0 own bytes ml ret) {x y z : Int32} (hd : decode bytes pc = .ok (.irem, 1)) (hp : pc + 1 = pc') (hy : y ≠ 0) (hv : x % y = z)
    (g : Go p l e R s m args below meth c Y n0 G h k n (mkF m pc' Ls (.int z :: S))) : Go p l e R s m args below meth c Y n0 G h k n (mkF m pc Ls (.int y :: .int x :: S)) := by
  subst hp; rw [← irem_eq_mod x y] at hv; subst hv; exact stepG (fun T locs X _ _ q => XS.irem X.here C.1 rfl (hb C.2.2.1 hd) rfl hy q) g
theorem lrem (C : Cx p s m meth c Z n0 own bytes ml ret) {x y z : Int64} (hd : decode bytes pc = .ok (.lrem, 1)) (hp : pc + 1 = pc') (hy : y ≠ 0) (hv : x % y = z)
    (g : Go p l e R s m args below meth c Y n0 G h k n (mkF m pc' Ls (.long z :: S))) : Go p l e R s m args below meth c Y n0 G h k n (mkF m pc Ls (.long y :: .long x :: S)) := by
  subst hp; rw [← lrem_mod x y] at hv; subst hv; exact stepG (fun T locs X _ _ q => XS.lrem X.here C.1 rfl (hb C.2.2.1 hd) rfl hy q) g
theorem iinc (C : Cx p s m meth c Z n0 own bytes ml ret) {i : Nat} {cst : Int} {x z : Int32} (hd : decode bytes pc = .ok (.iinc i cst, 3)) (hp : pc + 3 = pc') (hl : Ls[i]? = some (.val (.int x))) (hv : x + Int32.ofInt cst = z) (hl' : storeLocals Ls i (.int z) = some Ls')
    (g : Go p l e R s m args below meth c Y n0 G h k n (mkF m pc' Ls' S)) : Go p l e R s m args below meth c Y n0 G h k n (mkF m pc Ls S) := by
  subst hp hv; exact stepG (fun T locs X _ _ q => XS.iinc X.here C.1 rfl (hb C.2.2.1 hd) hl hl' q) g
theorem dup (C : Cx p s m meth c Z n0 own bytes ml ret) {x : Value} (hd : decode bytes pc = .ok (.dup, 1)) (hp : pc + 1 = pc') (hc : x.category = 1)
    (g : Go p l e R s m args below meth c Y n0 G h k n (mkF m pc' Ls (x :: x :: S))) : Go p l e R s m args below meth c Y n0 G h k n (mkF m pc Ls (x :: S)) := by
  subst hp; exact stepG (fun T locs X _ _ q => XS.dup X.here C.1 rfl (hb C.2.2.1 hd) rfl hc q) g
theorem dup_x1 (C : Cx p s m meth c Z n0 own bytes ml ret) {x y : Value} (hd : decode bytes pc = .ok (.dup_x1, 1)) (hp : pc + 1 = pc') (hc : x.category = 1) (hc2 : y.category = 1)
    (g : Go p l e R s m args below meth c Y n0 G h k n (mkF m pc' Ls (x :: y :: x :: S))) : Go p l e R s m args below meth c Y n0 G h k n (mkF m pc Ls (x :: y :: S)) := by
  subst hp; exact stepG (fun T locs X _ _ q => XS.dupX1 X.here C.1 rfl (hb C.2.2.1 hd) rfl hc hc2 q) g
theorem dup2L (C : Cx p s m meth c Z n0 own bytes ml ret) {x : Int64} (hd : decode bytes pc = .ok (.dup2, 1)) (hp : pc + 1 = pc')
    (g : Go p l e R s m args below meth c Y n0 G h k n (mkF m pc' Ls (.long x :: .long x :: S))) : Go p l e R s m args below meth c Y n0 G h k n (mkF m pc Ls (.long x :: S)) := by
  subst hp; exact stepG (fun T locs X _ _ q => Jvm.Free.XT.dup2L X.here C.1 rfl (hb C.2.2.1 hd) rfl q) g
theorem dup2 (C : Cx p s m meth c Z n0 own bytes ml ret) {x y : Value} (hd : decode bytes pc = .ok (.dup2, 1)) (hp : pc + 1 = pc') (hc : x.category = 1) (hc2 : y.category = 1)
    (g : Go p l e R s m args below meth c Y n0 G h k n (mkF m pc' Ls (x :: y :: x :: y :: S))) : Go p l e R s m args below meth c Y n0 G h k n (mkF m pc Ls (x :: y :: S)) := by
  subst hp; exact stepG (fun T locs X _ _ q => Jvm.Free.XT.dup2 X.here C.1 rfl (hb C.2.2.1 hd) rfl hc hc2 q) g
theorem pop (C : Cx p s m meth c Z n0 own bytes ml ret) {x : Value} (hd : decode bytes pc = .ok (.pop, 1)) (hp : pc + 1 = pc') (hc : x.category = 1)
    (g : Go p l e R s m args below meth c Y n0 G h k n (mkF m pc' Ls S)) : Go p l e R s m args below meth c Y n0 G h k n (mkF m pc Ls (x :: S)) := by
  subst hp; exact stepG (fun T locs X _ _ q => XS.pop X.here C.1 rfl (hb C.2.2.1 hd) rfl hc q) g
theorem goto (C : Cx p s m meth c Z n0 own bytes ml ret) {o : Int} (hd : decode bytes pc = .ok (.goto o, 3)) (ho : 0 ≤ (pc : Int) + o) (hp : ((pc : Int) + o).toNat = pc')
    (g : Go p l e R s m args below meth c Y n0 G h k n (mkF m pc' Ls S)) : Go p l e R s m args below meth c Y n0 G h k n (mkF m pc Ls S) := by
  exact stepG (fun T locs X _ _ q => XS.goto X.here C.1 rfl (pc0 := pc) rfl (hb C.2.2.1 hd) ho hp q) g

/-! branches: P: taken, P': not taken -/
theorem icmp (C : Cx p s m meth c Z n0 own bytes ml ret) {cd : ClassFile.Cond} {o : Int} {x y : Int32} (hd : decode bytes pc = .ok (.if_icmp cd o, 3)) (ho : 0 ≤ (pc : Int) + o) (hp : ((pc : Int) + o).toNat = pc') (hn : pc + 3 = pn)
    {P P' : Prop} (q : (P → if_icmp.holds cd x y = true) ∧ (P' → if_icmp.holds cd x y = false) ∧ (P ∨ P'))
    (g1 : P → Go p l e R s m args below meth c Y n0 G h k n (mkF m pc' Ls S)) (g2 : P' → Go p l e R s m args below meth c Y n0 G h k n (mkF m pn Ls S)) : Go p l e R s m args below meth c Y n0 G h k n (mkF m pc Ls (.int y :: .int x :: S)) := by
  rcases q.2.2 with hP | hP
  · exact stepG (fun T locs X _ _ z => XS.icmpYes X.here C.1 rfl (pc0 := pc) rfl (hb C.2.2.1 hd) rfl (q.1 hP) ho hp z) (g1 hP)
  · subst hn; exact stepG (fun T locs X _ _ z => XS.icmpNo X.here C.1 rfl (hb C.2.2.1 hd) rfl (q.2.1 hP) z) (g2 hP)
theorem ifc (C : Cx p s m meth c Z n0 own bytes ml ret) {cd : ClassFile.Cond} {o : Int} {x : Int32} (hd : decode bytes pc = .ok (.ifCond cd o, 3)) (ho : 0 ≤ (pc : Int) + o) (hp : ((pc : Int) + o).toNat = pc') (hn : pc + 3 = pn)
    {P P' : Prop} (q : (P → if_icmp.holds cd x 0 = true) ∧ (P' → if_icmp.holds cd x 0 = false) ∧ (P ∨ P'))
    (g1 : P → Go p l e R s m args below meth c Y n0 G h k n (mkF m pc' Ls S)) (g2 : P' → Go p l e R s m args below meth c Y n0 G h k n (mkF m pn Ls S)) : Go p l e R s m args below meth c Y n0 G h k n (mkF m pc Ls (.int x :: S)) := by
  rcases q.2.2 with hP | hP
  · exact stepG (fun T locs X _ _ z => XS.ifYes X.here C.1 rfl (pc0 := pc) rfl (hb C.2.2.1 hd) rfl ((if0 _ _).trans (q.1 hP)) ho hp z) (g1 hP)
  · subst hn; exact stepG (fun T locs X _ _ z => XS.ifNo X.here C.1 rfl (hb C.2.2.1 hd) rfl ((if0 _ _).trans (q.2.1 hP)) z) (g2 hP)
/-- lcmp and the branch behind it -/
theorem lcif (C : Cx p s m meth c Z n0 own bytes ml ret) {cd : ClassFile.Cond} {o : Int} {x y : Int64} {pm : Nat} (hd0 : decode bytes pc = .ok (.lcmp, 1)) (hm : pc + 1 = pm) (hd : decode bytes pm = .ok (.ifCond cd o, 3)) (ho : 0 ≤ (pm : Int) + o) (hp : ((pm : Int) + o).toNat = pc') (hn : pm + 3 = pn)
    {P P' : Prop} (q : (P → if_icmp.holds cd (lcmpW x y) 0 = true) ∧ (P' → if_icmp.holds cd (lcmpW x y) 0 = false) ∧ (P ∨ P'))
    (g1 : P → Go p l e R s m args below meth c Y n0 G h k n (mkF m pc' Ls S)) (g2 : P' → Go p l e R s m args below meth c Y n0 G h k n (mkF m pn Ls S)) : Go p l e R s m args below meth c Y n0 G h k n (mkF m pc Ls (.long y :: .long x :: S)) := by
  subst hm
  exact stepG (fun T locs X _ _ z => XS.lcmp X.here C.1 rfl (hb C.2.2.1 hd0) rfl z) (ifc C hd ho hp hn q g1 g2)
theorem q_lt (x y : Int32) : (x.toInt < y.toInt → if_icmp.holds .lt x y = true) ∧ (y.toInt ≤ x.toInt → if_icmp.holds .lt x y = false) ∧ (x.toInt < y.toInt ∨ y.toInt ≤ x.toInt) :=
  ⟨fun q => (tlt (Int32.lt_iff_toInt_lt.mpr q)).1, fun q => (flt (fun w => absurd (Int32.lt_iff_toInt_lt.mp w) (Int.not_lt.mpr q))).1, Int.lt_or_le _ _⟩
theorem q_ge (x y : Int32) : (y.toInt ≤ x.toInt → if_icmp.holds .ge x y = true) ∧ (x.toInt < y.toInt → if_icmp.holds .ge x y = false) ∧ (y.toInt ≤ x.toInt ∨ x.toInt < y.toInt) :=
  ⟨fun q => (flt (fun w => absurd (Int32.lt_iff_toInt_lt.mp w) (Int.not_lt.mpr q))).2.1, fun q => (tlt (Int32.lt_iff_toInt_lt.mpr q)).2.1, (Int.lt_or_le _ _).symm⟩
theorem q_gt (x y : Int32) : (y.toInt < x.toInt → if_icmp.holds .gt x y = true) ∧ (x.toInt ≤ y.toInt → if_icmp.holds .gt x y = false) ∧ (y.toInt < x.toInt ∨ x.toInt ≤ y.toInt) :=
  ⟨fun q => (tlt (Int32.lt_iff_toInt_lt.mpr q)).2.2.1, fun q => (flt (fun w => absurd (Int32.lt_iff_toInt_lt.mp w) (Int.not_lt.mpr q))).2.2.1, Int.lt_or_le _ _⟩
theorem q_le (x y : Int32) : (x.toInt ≤ y.toInt → if_icmp.holds .le x y = true) ∧ (y.toInt < x.toInt → if_icmp.holds .le x y = false) ∧ (x.toInt ≤ y.toInt ∨ y.toInt < x.toInt) :=
  ⟨fun q => (flt (fun w => absurd (Int32.lt_iff_toInt_lt.mp w) (Int.not_lt.mpr q))).2.2.2, fun q => (tlt (Int32.lt_iff_toInt_lt.mpr q)).2.2.2, (Int.lt_or_le _ _).symm⟩
theorem q_eq (x y : Int32) : (x = y → if_icmp.holds .eq x y = true) ∧ (¬ x = y → if_icmp.holds .eq x y = false) ∧ (x = y ∨ ¬ x = y) := ⟨fun q => (teq q).1, fun q => (feq q).1, Classical.em _⟩
theorem q_ne (x y : Int32) : (¬ x = y → if_icmp.holds .ne x y = true) ∧ (x = y → if_icmp.holds .ne x y = false) ∧ (¬ x = y ∨ x = y) := ⟨fun q => (feq q).2, fun q => (teq q).2, (Classical.em _).symm⟩
theorem ql_lt (x y : Int64) : (x.toInt < y.toInt → if_icmp.holds .lt (lcmpW x y) 0 = true) ∧ (y.toInt ≤ x.toInt → if_icmp.holds .lt (lcmpW x y) 0 = false) ∧ (x.toInt < y.toInt ∨ y.toInt ≤ x.toInt) :=
  ⟨fun q => (tlt ((lw_lt x y).mpr (Int64.lt_iff_toInt_lt.mpr q))).1, fun q => (flt (fun w => absurd (Int64.lt_iff_toInt_lt.mp ((lw_lt x y).mp w)) (Int.not_lt.mpr q))).1, Int.lt_or_le _ _⟩
theorem ql_ge (x y : Int64) : (y.toInt ≤ x.toInt → if_icmp.holds .ge (lcmpW x y) 0 = true) ∧ (x.toInt < y.toInt → if_icmp.holds .ge (lcmpW x y) 0 = false) ∧ (y.toInt ≤ x.toInt ∨ x.toInt < y.toInt) :=
  ⟨fun q => (flt (fun w => absurd (Int64.lt_iff_toInt_lt.mp ((lw_lt x y).mp w)) (Int.not_lt.mpr q))).2.1, fun q => (tlt ((lw_lt x y).mpr (Int64.lt_iff_toInt_lt.mpr q))).2.1, (Int.lt_or_le _ _).symm⟩
theorem ql_gt (x y : Int64) : (y.toInt < x.toInt → if_icmp.holds .gt (lcmpW x y) 0 = true) ∧ (x.toInt ≤ y.toInt → if_icmp.holds .gt (lcmpW x y) 0 = false) ∧ (y.toInt < x.toInt ∨ x.toInt ≤ y.toInt) :=
  ⟨fun q => (tlt ((lw_gt x y).mpr (Int64.lt_iff_toInt_lt.mpr q))).2.2.1, fun q => (flt (fun w => absurd (Int64.lt_iff_toInt_lt.mp ((lw_gt x y).mp w)) (Int.not_lt.mpr q))).2.2.1, Int.lt_or_le _ _⟩
theorem ql_le (x y : Int64) : (x.toInt ≤ y.toInt → if_icmp.holds .le (lcmpW x y) 0 = true) ∧ (y.toInt < x.toInt → if_icmp.holds .le (lcmpW x y) 0 = false) ∧ (x.toInt ≤ y.toInt ∨ y.toInt < x.toInt) :=
  ⟨fun q => (flt (fun w => absurd (Int64.lt_iff_toInt_lt.mp ((lw_gt x y).mp w)) (Int.not_lt.mpr q))).2.2.2, fun q => (tlt ((lw_gt x y).mpr (Int64.lt_iff_toInt_lt.mpr q))).2.2.2, (Int.lt_or_le _ _).symm⟩
theorem ql_eq (x y : Int64) : (x = y → if_icmp.holds .eq (lcmpW x y) 0 = true) ∧ (¬ x = y → if_icmp.holds .eq (lcmpW x y) 0 = false) ∧ (x = y ∨ ¬ x = y) := ⟨fun q => (teq ((lw_eq x y).mpr q)).1, fun q => (feq (fun w => q ((lw_eq x y).mp w))).1, Classical.em _⟩
theorem ql_ne (x y : Int64) : (¬ x = y → if_icmp.holds .ne (lcmpW x y) 0 = true) ∧ (x = y → if_icmp.holds .ne (lcmpW x y) 0 = false) ∧ (¬ x = y ∨ x = y) := ⟨fun q => (feq (fun w => q ((lw_eq x y).mp w))).2, fun q => (teq ((lw_eq x y).mpr q)).2, (Classical.em _).symm⟩

theorem acmp (C : Cx p s m meth c Z n0 own bytes ml ret) {cd : ACond} {o : Int} {x y : Value} (h1 : x.isRef = true) (h2 : y.isRef = true) (hd : decode bytes pc = .ok (.if_acmp cd o, 3)) (ho : 0 ≤ (pc : Int) + o) (hp : ((pc : Int) + o).toNat = pc') (hn : pc + 3 = pn)
    {P P' : Prop} (q : (P → acV cd (decide (x = y)) = true) ∧ (P' → acV cd (decide (x = y)) = false) ∧ (P ∨ P'))
    (g1 : P → Go p l e R s m args below meth c Y n0 G h k n (mkF m pc' Ls S)) (g2 : P' → Go p l e R s m args below meth c Y n0 G h k n (mkF m pn Ls S)) : Go p l e R s m args below meth c Y n0 G h k n (mkF m pc Ls (y :: x :: S)) := by
  rcases q.2.2 with hP | hP
  · exact stepG (fun T locs X _ _ z => Jvm.RoadKit.acmp (g := mkF m pc Ls (y :: x :: S)) X C.1 rfl h1 h2 (pc0 := pc) (pc' := pc') (same := decide (x = y)) rfl (hb C.2.2.1 hd) rfl rfl ho (by rw [q.1 hP]; exact hp.symm) z) (g1 hP)
  · exact stepG (fun T locs X _ _ z => Jvm.RoadKit.acmp (g := mkF m pc Ls (y :: x :: S)) X C.1 rfl h1 h2 (pc0 := pc) (pc' := pn) (same := decide (x = y)) rfl (hb C.2.2.1 hd) rfl rfl ho (by rw [q.2.1 hP]; exact hn.symm) z) (g2 hP)
theorem qa_eq (a b : Addr) : (a = b → acV .eq (decide (Value.ref a = Value.ref b)) = true) ∧ (¬ a = b → acV .eq (decide (Value.ref a = Value.ref b)) = false) ∧ (a = b ∨ ¬ a = b) :=
  ⟨fun q => decide_eq_true (congrArg Value.ref q), fun q => decide_eq_false fun z => q (Value.ref.inj z), Classical.em _⟩
theorem qa_ne (a b : Addr) : (¬ a = b → acV .ne (decide (Value.ref a = Value.ref b)) = true) ∧ (a = b → acV .ne (decide (Value.ref a = Value.ref b)) = false) ∧ (¬ a = b ∨ a = b) :=
  ⟨fun q => by rw [decide_eq_false fun z => q (Value.ref.inj z)]; rfl, fun q => by rw [decide_eq_true (congrArg Value.ref q)]; rfl, (Classical.em _).symm⟩
theorem ifnullT (C : Cx p s m meth c Z n0 own bytes ml ret) {o : Int} (hd : decode bytes pc = .ok (.ifnull o, 3)) (ho : 0 ≤ (pc : Int) + o) (hp : ((pc : Int) + o).toNat = pc')
    (g : Go p l e R s m args below meth c Y n0 G h k n (mkF m pc' Ls S)) : Go p l e R s m args below meth c Y n0 G h k n (mkF m pc Ls (.null :: S)) := stepG (fun T locs X _ _ z => XS.ifnullYes X.here C.1 rfl (pc0 := pc) rfl (hb C.2.2.1 hd) rfl ho hp z) g
theorem ifnullF (C : Cx p s m meth c Z n0 own bytes ml ret) {o : Int} {a : Addr} (hd : decode bytes pc = .ok (.ifnull o, 3)) (hp : pc + 3 = pc')
    (g : Go p l e R s m args below meth c Y n0 G h k n (mkF m pc' Ls S)) : Go p l e R s m args below meth c Y n0 G h k n (mkF m pc Ls (.ref a :: S)) := by subst hp; exact stepG (fun T locs X _ _ z => XS.ifnullNo X.here C.1 rfl (hb C.2.2.1 hd) rfl z) g
theorem ifnonnullT (C : Cx p s m meth c Z n0 own bytes ml ret) {o : Int} {a : Addr} (hd : decode bytes pc = .ok (.ifnonnull o, 3)) (ho : 0 ≤ (pc : Int) + o) (hp : ((pc : Int) + o).toNat = pc')
    (g : Go p l e R s m args below meth c Y n0 G h k n (mkF m pc' Ls S)) : Go p l e R s m args below meth c Y n0 G h k n (mkF m pc Ls (.ref a :: S)) := stepG (fun T locs X _ _ z => XS.ifnonnullYes X.here C.1 rfl (pc0 := pc) rfl (hb C.2.2.1 hd) rfl ho hp z) g
theorem ifnonnullF (C : Cx p s m meth c Z n0 own bytes ml ret) {o : Int} (hd : decode bytes pc = .ok (.ifnonnull o, 3)) (hp : pc + 3 = pc')
    (g : Go p l e R s m args below meth c Y n0 G h k n (mkF m pc' Ls S)) : Go p l e R s m args below meth c Y n0 G h k n (mkF m pc Ls (.null :: S)) := by subst hp; exact stepG (fun T locs X _ _ z => XS.ifnonnullNo X.here C.1 rfl (hb C.2.2.1 hd) rfl z) g

/-! returns -/
theorem retZ {t : FieldType} (C : Cx p s m meth c Z n0 own bytes ml (some t)) {z w : Int32} (ht : t = .boolean ∨ t = .byte ∨ t = .char ∨ t = .short) (hd : decode bytes pc = .ok (.ireturn, 1)) (hv : nar t z = w) (hk : k ≤ K) (hn : n ≤ N) (hY : ∀ s₂ o L, s₂.heap = h → FrameEnd s o s₂ L K N → Y s₂ o L) (g : G (some (.int w)) h) :
    Go p l e R s m args below meth c Y n0 G h k n (mkF m pc Ls (.int z :: S)) := fun T ⟨locs, F, X, eT⟩ => by
  subst hv eT
  have hlk : meth.locks = false := C.2.2.2.2.2.2.1
  obtain ⟨fs, hr, hrun, hended, hW, hsame⟩ := X.leave (v := some (.int (nar t z))) (fun q => by rw [C.2.2.2.2.2.1] at q; cases q) hlk
  exact ⟨_, _, retN X C.1 (t := t) C.2.2.2.2.2.1 ht (hb C.2.2.1 hd) hr, hrun, hended, _, _, rfl, ⟨g, F⟩, hY _ _ _ rfl ⟨⟨_, rfl⟩, hW, hsame.mono hk hn⟩⟩
theorem retV {t : FieldType} (C : Cx p s m meth c Z n0 own bytes ml (some t)) {w : Value} {i : Instr} (hv : narrow t w = w)
    (hi : (i = .ireturn ∧ (t = .int ∨ t = .boolean ∨ t = .byte ∨ t = .char ∨ t = .short) ∧ ∃ z, w = .int z) ∨ (i = .lreturn ∧ t = .long ∧ ∃ z, w = .long z) ∨ (i = .dreturn ∧ t = .double ∧ ∃ z, w = .double z) ∨ (i = .freturn ∧ t = .float ∧ ∃ z, w = .float z) ∨ (i = .areturn ∧ t.isReference = true ∧ w.isRef = true))
    (hd : decode bytes pc = .ok (i, 1)) (hk : k ≤ K) (hn : n ≤ N) (hY : ∀ s₂ o L, s₂.heap = h → FrameEnd s o s₂ L K N → Y s₂ o L) (g : G (some w) h) :
    Go p l e R s m args below meth c Y n0 G h k n (mkF m pc Ls (w :: S)) := fun T ⟨locs, F, X, eT⟩ => by
  subst eT
  have hlk : meth.locks = false := C.2.2.2.2.2.2.1
  obtain ⟨fs, hr, hrun, hended, hW, hsame⟩ := X.leave (v := some w) (fun q => by rw [C.2.2.2.2.2.1] at q; cases q) hlk
  exact ⟨_, _, retOut X C.1 (t := t) C.2.2.2.2.2.1 hv hi (hb C.2.2.1 hd) hr, hrun, hended, _, _, rfl, ⟨g, F⟩, hY _ _ _ rfl ⟨⟨_, rfl⟩, hW, hsame.mono hk hn⟩⟩
theorem retI (C : Cx p s m meth c Z n0 own bytes ml (some .int)) {z : Int32} (hd : decode bytes pc = .ok (.ireturn, 1)) (hk : k ≤ K) (hn : n ≤ N) (hY : ∀ s₂ o L, s₂.heap = h → FrameEnd s o s₂ L K N → Y s₂ o L) (g : G (some (.int z)) h) :
    Go p l e R s m args below meth c Y n0 G h k n (mkF m pc Ls (.int z :: S)) := retV C rfl (Or.inl ⟨rfl, Or.inl rfl, _, rfl⟩) hd hk hn hY g
theorem retL (C : Cx p s m meth c Z n0 own bytes ml (some .long)) {z : Int64} (hd : decode bytes pc = .ok (.lreturn, 1)) (hk : k ≤ K) (hn : n ≤ N) (hY : ∀ s₂ o L, s₂.heap = h → FrameEnd s o s₂ L K N → Y s₂ o L) (g : G (some (.long z)) h) :
    Go p l e R s m args below meth c Y n0 G h k n (mkF m pc Ls (.long z :: S)) := retV C rfl (Or.inr (Or.inl ⟨rfl, rfl, _, rfl⟩)) hd hk hn hY g
theorem retA {t : FieldType} (C : Cx p s m meth c Z n0 own bytes ml (some t)) {w : Value} (ht : t.isReference = true) (hw : w.isRef = true) (hn' : narrow t w = w) (hd : decode bytes pc = .ok (.areturn, 1)) (hk : k ≤ K) (hn : n ≤ N) (hY : ∀ s₂ o L, s₂.heap = h → FrameEnd s o s₂ L K N → Y s₂ o L) (g : G (some w) h) :
    Go p l e R s m args below meth c Y n0 G h k n (mkF m pc Ls (w :: S)) := retV C hn' (Or.inr (Or.inr (Or.inr (Or.inr ⟨rfl, ht, hw⟩)))) hd hk hn hY g
theorem ret0 (C : Cx p s m meth c Z n0 own bytes ml none) (hd : decode bytes pc = .ok (.return_, 1)) (hk : k ≤ K) (hn : n ≤ N) (hY : ∀ s₂ o L, s₂.heap = h → FrameEnd s o s₂ L K N → Y s₂ o L) (g : G none h) :
    Go p l e R s m args below meth c Y n0 G h k n (mkF m pc Ls []) := fun T ⟨locs, F, X, eT⟩ => by
  subst eT
  have hlk : meth.locks = false := C.2.2.2.2.2.2.1
  obtain ⟨fs, hr, hrun, hended, hW, hsame⟩ := X.leave (v := none) (fun _ => rfl) hlk
  exact ⟨_, _, X.returnOut C.1 C.2.2.2.2.2.1 (hb C.2.2.1 hd) hr, hrun, hended, _, _, rfl, ⟨g, F⟩, hY _ _ _ rfl ⟨⟨_, rfl⟩, hW, hsame.mono hk hn⟩⟩

theorem hz (C : Cx p s m meth c Z n0 own bytes ml ret) {T : State} {locs : List Loc} (X : Stand p l e R s m args below meth c T locs k n) (eT : T.heap = h) : n0 ≤ h.size := eT ▸ Nat.le_trans C.2.2.2.2.2.2.2 X.same.2.1
/-! calls -/
theorem callS (C : Cx p s m meth c Z n0 own bytes ml ret) {i : Nat} {y : MethodName} {b' : ByteArray} {mL : Nat} {r' : Option FieldType} {rm : Room} {Gc : Option Value → Heap → Prop} {argsL rest : List Value} {W : Nat}
    (w1 : (Cond.methodLink own i y).before a0 Z = true) (w2 : (Cond.static y).before a0 Z = true) (w3 : (Cond.initialized y.cls).before a0 Z = true) (w4 : (Cond.code y b' mL r').before a0 Z = true)
    (hy : y.cls ≠ "java/lang/invoke/MethodHandle" ∧ y.cls ≠ "java/lang/invoke/VarHandle") (con : n0 ≤ h.size → Con l Z y b' mL r' [] rm rm.cells rm.slots argsL.toArray h n0 Gc)
    (hd : decode bytes pc = .ok (.invokestatic i, 3)) (hp : pc + 3 = pc') (hsz : Ls.size = ml) {ps : List FieldType} {rr : Option FieldType} (hds : parseMethodDescriptor y.desc = some ⟨ps, rr⟩) (hlen : argsL.length = ps.length)
    (hS : S = argsL.reverse ++ rest) (hW : (rest.map fun v => v.category).sum = W) (hf : rm.frames + 1 ≤ R.frames) (hl : W + (mL + 11) + rm.locals ≤ R.locals) (hc : k + rm.cells ≤ R.cells) (hs : n + rm.slots ≤ R.slots) {k' n' : Nat} (hk' : k + rm.cells = k') (hn' : n + rm.slots = n')
    (g : ∀ h' v, Gc v h' → Go p l e R s m args below meth c Y n0 G h' k' n' (mkF m pc' Ls (v.toList ++ rest))) :
    Go p l e R s m args below meth c Y n0 G h k n (mkF m pc Ls S) := fun T ⟨locs, F, X, eT⟩ => by
  subst hp hS hk' hn'
  obtain ⟨v, _, ⟨T', L', k', n'⟩, -, X', ⟨Lc, ⟨hQ, hF⟩, l1, y1, z1⟩, st⟩ := Jvm.LawKit.callS X C.1 C.2.2.2.2.1 (mvT C.2.1 w1) (mvT C.2.1 w2) (mvT C.2.1 w3) (mvT C.2.1 w4) hy
    (backOf (W := W) (Q := fun v h L => Gc v h ∧ Fr n0 L) (con (hz C X eT)) C.2.1 w4 w3 hf hl) (g := mkF m pc Ls (argsL.reverse ++ rest)) rfl (hsz.trans C.2.2.2.1.symm) (argsL := argsL) (rest := rest) (lenOf hds hlen) rfl (by show 2 * 0 + _ ≤ _; rw [Nat.mul_zero, Nat.zero_add]; exact Nat.le_of_eq hW) (hb C.2.2.1 hd) (fun _ _ => ⟨rfl, eT, hc, hs⟩)
  dsimp only [Pt.U, Pt.locs, Pt.cells, Pt.slots] at X' l1 y1 z1 st hQ
  subst l1 y1 z1
  exact step (fun t q => st t q) (g T'.heap v hQ T' ⟨_, Fr.app F hF, X', rfl⟩)
theorem callSp (C : Cx p s m meth c Z n0 own bytes ml ret) {i : Nat} {y : MethodName} {b' : ByteArray} {mL : Nat} {rm : Room} {Gc : Option Value → Heap → Prop} {a : Addr} {argsL rest : List Value} {W : Nat} (hy1 : y.name = "<init>")
    (w1 : (Cond.methodLink own i y).before a0 Z = true) (w2 : (Cond.instanceMethod y).before a0 Z = true) (w3 : (Cond.initialized y.cls).before a0 Z = true) (w4 : (Cond.code y b' mL none).before a0 Z = true)
    (hy : y.cls ≠ "java/lang/invoke/MethodHandle" ∧ y.cls ≠ "java/lang/invoke/VarHandle") (con : n0 ≤ h.size → Con l Z y b' mL none [] rm rm.cells rm.slots (.ref a :: argsL).toArray h n0 Gc)
    (hd : decode bytes pc = .ok (.invokespecial i, 3)) (hp : pc + 3 = pc') (hsz : Ls.size = ml) {ps : List FieldType} {rr : Option FieldType} (hds : parseMethodDescriptor y.desc = some ⟨ps, rr⟩) (hlen : argsL.length = ps.length)
    (hS : S = argsL.reverse ++ .ref a :: rest) (hW : (rest.map fun v => v.category).sum = W) (hf : rm.frames + 1 ≤ R.frames) (hl : W + (mL + 11) + rm.locals ≤ R.locals) (hc : k + rm.cells ≤ R.cells) (hs : n + rm.slots ≤ R.slots) {k' n' : Nat} (hk' : k + rm.cells = k') (hn' : n + rm.slots = n')
    (g : ∀ h' v, Gc v h' → Go p l e R s m args below meth c Y n0 G h' k' n' (mkF m pc' Ls (v.toList ++ rest))) :
    Go p l e R s m args below meth c Y n0 G h k n (mkF m pc Ls S) := fun T ⟨locs, F, X, eT⟩ => by
  subst hp hS hk' hn'
  obtain ⟨v, _, ⟨T', L', k', n'⟩, -, X', ⟨Lc, ⟨hQ, hF⟩, l1, y1, z1⟩, st⟩ := X.specialBack C.1 hy1 C.2.2.2.2.1 (mvT C.2.1 w1) (mvT C.2.1 w2) (mvT C.2.1 w4) hy
    (backOf (W := W) (Q := fun v h L => Gc v h ∧ Fr n0 L) (con (hz C X eT)) C.2.1 w4 w3 hf hl) (g := mkF m pc Ls (argsL.reverse ++ .ref a :: rest)) rfl (hsz.trans C.2.2.2.1.symm) (Steps.refl _) (a := a) (argsL := argsL) (rest := rest) (lenOf hds hlen) rfl (by show 2 * 0 + _ ≤ _; rw [Nat.mul_zero, Nat.zero_add]; exact Nat.le_of_eq hW) (hb C.2.2.1 hd) (fun _ _ => ⟨rfl, eT, hc, hs⟩)
  dsimp only [Pt.U, Pt.locs, Pt.cells, Pt.slots] at X' l1 y1 z1 st hQ
  subst l1 y1 z1
  exact step (fun t q => st.trans q) (g T'.heap v hQ T' ⟨_, Fr.app F hF, X', rfl⟩)
theorem callV (C : Cx p s m meth c Z n0 own bytes ml ret) {i : Nat} {y z : MethodName} {b' : ByteArray} {mL : Nat} {r' : Option FieldType} {rm : Room} {Gc : Option Value → Heap → Prop} {a : Addr} {argsL rest : List Value} {W : Nat} {Cn : String}
    (w1 : (Cond.methodLink own i y).before a0 Z = true) (w2 : (Cond.declares y).before a0 Z = true) (hnf : NotFace s y) (w5 : (Cond.selects Cn y z).before a0 Z = true) (w6 : (Cond.instanceMethod z).before a0 Z = true) (w3 : (Cond.initialized z.cls).before a0 Z = true) (w4 : (Cond.code z b' mL r').before a0 Z = true)
    (hy : y.cls ≠ "java/lang/invoke/MethodHandle" ∧ y.cls ≠ "java/lang/invoke/VarHandle") (E : Exa Z h a Cn) (con : n0 ≤ h.size → Con l Z z b' mL r' [] rm rm.cells rm.slots (.ref a :: argsL).toArray h n0 Gc)
    (hd : decode bytes pc = .ok (.invokevirtual i, 3)) (hp : pc + 3 = pc') (hsz : Ls.size = ml) {ps : List FieldType} {rr : Option FieldType} (hds : parseMethodDescriptor y.desc = some ⟨ps, rr⟩) (hlen : argsL.length = ps.length)
    (hS : S = argsL.reverse ++ .ref a :: rest) (hW : (rest.map fun v => v.category).sum = W) (hf : rm.frames + 1 ≤ R.frames) (hl : W + (mL + 11) + rm.locals ≤ R.locals) (hc : k + rm.cells ≤ R.cells) (hs : n + rm.slots ≤ R.slots) {k' n' : Nat} (hk' : k + rm.cells = k') (hn' : n + rm.slots = n')
    (g : ∀ h' v, Gc v h' → Go p l e R s m args below meth c Y n0 G h' k' n' (mkF m pc' Ls (v.toList ++ rest))) :
    Go p l e R s m args below meth c Y n0 G h k n (mkF m pc Ls S) := fun T ⟨locs, F, X, eT⟩ => by
  subst hp hS hk' hn'
  obtain ⟨cq, kq, qa, qb, qc⟩ := isOf C.2.1 eT E
  obtain ⟨v, _, ⟨T', L', k', n'⟩, -, X', ⟨Lc, ⟨hQ, hF⟩, l1, y1, z1⟩, st⟩ := X.virtualBack C.1 C.2.2.2.2.1 (mvT C.2.1 w1) (mvT C.2.1 w2) hnf (mvT C.2.1 w5) (mvT C.2.1 w6) hy
    (backOf (W := W) (Q := fun v h L => Gc v h ∧ Fr n0 L) (con (hz C X eT)) C.2.1 w4 w3 hf hl) qa qc (g := mkF m pc Ls (argsL.reverse ++ .ref a :: rest)) rfl (hsz.trans C.2.2.2.1.symm) (Steps.refl _) (argsL := argsL) (rest := rest) (lenOf hds hlen) rfl (by show 2 * 0 + _ ≤ _; rw [Nat.mul_zero, Nat.zero_add]; exact Nat.le_of_eq hW) (hb C.2.2.1 hd) (fun _ _ => ⟨rfl, eT, hc, hs⟩)
  dsimp only [Pt.U, Pt.locs, Pt.cells, Pt.slots] at X' l1 y1 z1 st hQ
  subst l1 y1 z1
  exact step (fun t q => st.trans q) (g T'.heap v hQ T' ⟨_, Fr.app F hF, X', rfl⟩)
theorem callI (C : Cx p s m meth c Z n0 own bytes ml ret) {i cnt : Nat} {y z : MethodName} {b' : ByteArray} {mL : Nat} {r' : Option FieldType} {rm : Room} {Gc : Option Value → Heap → Prop} {a : Addr} {argsL rest : List Value} {W : Nat} {Cn : String}
    (w1 : (Cond.methodLink own i y).before a0 Z = true) (w2 : (Cond.declares y).before a0 Z = true) (w7 : (Cond.interfaceMethod y.cls y.cls y.name y.desc).before a0 Z = true) (w5 : (Cond.selects Cn y z).before a0 Z = true) (w6 : (Cond.instanceMethod z).before a0 Z = true) (w8 : (Cond.publicMethod z).before a0 Z = true) (w9 : (Cond.unhidden Cn y.name y.desc).before a0 Z = true) (w10 : (Cond.castable Cn y.cls).before a0 Z = true)
    (w3 : (Cond.initialized z.cls).before a0 Z = true) (w4 : (Cond.code z b' mL r').before a0 Z = true)
    (hy : y.cls ≠ "java/lang/invoke/MethodHandle" ∧ y.cls ≠ "java/lang/invoke/VarHandle") (E : Exa Z h a Cn) (con : n0 ≤ h.size → Con l Z z b' mL r' [] rm rm.cells rm.slots (.ref a :: argsL).toArray h n0 Gc)
    (hd : decode bytes pc = .ok (.invokeinterface i cnt, 5)) (hp : pc + 5 = pc') (hsz : Ls.size = ml) {ps : List FieldType} {rr : Option FieldType} (hds : parseMethodDescriptor y.desc = some ⟨ps, rr⟩) (hlen : argsL.length = ps.length)
    (hS : S = argsL.reverse ++ .ref a :: rest) (hW : (rest.map fun v => v.category).sum = W) (hf : rm.frames + 1 ≤ R.frames) (hl : W + (mL + 11) + rm.locals ≤ R.locals) (hc : k + rm.cells ≤ R.cells) (hs : n + rm.slots ≤ R.slots) {k' n' : Nat} (hk' : k + rm.cells = k') (hn' : n + rm.slots = n')
    (g : ∀ h' v, Gc v h' → Go p l e R s m args below meth c Y n0 G h' k' n' (mkF m pc' Ls (v.toList ++ rest))) :
    Go p l e R s m args below meth c Y n0 G h k n (mkF m pc Ls S) := fun T ⟨locs, F, X, eT⟩ => by
  subst hp hS hk' hn'
  obtain ⟨cq, kq, qa, qb, qc⟩ := isOf C.2.1 eT E
  obtain ⟨v, _, ⟨T', L', k', n'⟩, -, X', ⟨Lc, ⟨hQ, hF⟩, l1, y1, z1⟩, st⟩ := X.interfaceBack C.1 C.2.2.2.2.1 (mvT C.2.1 w1) (mvT C.2.1 w2) (mvT C.2.1 w7 (by simp [Cond.onTables, Cond.keepsFace, Cond.keeps, Cond.steady, Cond.faceAtom, hy.1, hy.2])) (mvT C.2.1 w5) (mvT C.2.1 w6) (mvT C.2.1 w8) (mvT C.2.1 w9) (mvT C.2.1 w10) hy
    (backOf (W := W) (Q := fun v h L => Gc v h ∧ Fr n0 L) (con (hz C X eT)) C.2.1 w4 w3 hf hl) qa qb qc (g := mkF m pc Ls (argsL.reverse ++ .ref a :: rest)) rfl (hsz.trans C.2.2.2.1.symm) (Steps.refl _) (argsL := argsL) (rest := rest) (lenOf hds hlen) rfl (by show 2 * 0 + _ ≤ _; rw [Nat.mul_zero, Nat.zero_add]; exact Nat.le_of_eq hW) (hb C.2.2.1 hd) (fun _ _ => ⟨rfl, eT, hc, hs⟩)
  dsimp only [Pt.U, Pt.locs, Pt.cells, Pt.slots] at X' l1 y1 z1 st hQ
  subst l1 y1 z1
  exact step (fun t q => st.trans q) (g T'.heap v hQ T' ⟨_, Fr.app F hF, X', rfl⟩)
/-- a private method by invokevirtual: no 'selects' word is wanted; the class is instantiable -/
theorem callP (C : Cx p s m meth c Z n0 own bytes ml ret) {i q : Nat} {y : MethodName} {b' : ByteArray} {mL : Nat} {r' : Option FieldType} {rm : Room} {Gc : Option Value → Heap → Prop} {a : Addr} {argsL rest : List Value} {W : Nat} {Cn : String}
    (w1 : (Cond.methodLink own i y).before a0 Z = true) (w6 : (Cond.instanceMethod y).before a0 Z = true) (w7 : (Cond.privateMethod y).before a0 Z = true) (w8 : (Cond.instantiable y.cls q).before a0 Z = true) (w3 : (Cond.initialized y.cls).before a0 Z = true) (w4 : (Cond.code y b' mL r').before a0 Z = true)
    (hy : y.cls ≠ "java/lang/invoke/MethodHandle" ∧ y.cls ≠ "java/lang/invoke/VarHandle") (E : Exa Z h a Cn) (con : n0 ≤ h.size → Con l Z y b' mL r' [] rm rm.cells rm.slots (.ref a :: argsL).toArray h n0 Gc)
    (hd : decode bytes pc = .ok (.invokevirtual i, 3)) (hp : pc + 3 = pc') (hsz : Ls.size = ml) {ps : List FieldType} {rr : Option FieldType} (hds : parseMethodDescriptor y.desc = some ⟨ps, rr⟩) (hlen : argsL.length = ps.length)
    (hS : S = argsL.reverse ++ .ref a :: rest) (hW : (rest.map fun v => v.category).sum = W) (hf : rm.frames + 1 ≤ R.frames) (hl : W + (mL + 11) + rm.locals ≤ R.locals) (hc : k + rm.cells ≤ R.cells) (hs : n + rm.slots ≤ R.slots) {k' n' : Nat} (hk' : k + rm.cells = k') (hn' : n + rm.slots = n')
    (g : ∀ h' v, Gc v h' → Go p l e R s m args below meth c Y n0 G h' k' n' (mkF m pc' Ls (v.toList ++ rest))) :
    Go p l e R s m args below meth c Y n0 G h k n (mkF m pc Ls S) := fun T ⟨locs, F, X, eT⟩ => by
  subst hp hS hk' hn'
  obtain ⟨cell, hc1, hc2⟩ := E.cell
  obtain ⟨mk, methM, hnamed, hmethM, hstM, habM⟩ := Cond.instanceMethod_spec (mvT (args := args) C.2.1 w6)
  obtain ⟨methM', cM, hmethM', -, -, -, -, -, -, hsigM⟩ := Cond.code_spec hnamed (mvT (args := args) C.2.1 w4)
  cases hmethM.symm.trans hmethM'
  obtain ⟨cid, kP, z1, z2, z3, z4, -⟩ := Cond.instantiable_spec (mvT (args := args) C.2.1 w8)
  have z5 : cid = mk.cls := Option.some.inj (z1.symm.trans (findClass_of_methodNamed hnamed))
  subst z5
  have z6 : kP.isInterface = false := by simp only [Bool.or_eq_false_iff] at z4; exact z4.1
  obtain ⟨vm₁, X₁, hstep₁⟩ := X.invokevirtual C.1 C.2.2.2.2.1 (mvT C.2.1 w1) hnamed hmethM hstM z2 z6 hy (a := a) (cell := cell) (by rw [eT]; exact hc1) hc2 (selectMethod_private hmethM (Cond.privateMethod_at (mvP C.2.1 w7 (args := #[])) mk methM hnamed hmethM)) hmethM habM z2 z6 (g := mkF m pc Ls (argsL.reverse ++ .ref a :: rest)) rfl (argsL := argsL) (rest := rest) (lenOf hds hlen _ hsigM) rfl (hb C.2.2.1 hd)
  obtain ⟨v, ⟨T', L', k', n'⟩, X', ⟨Lc, ⟨hQ, hF⟩, l1, y1, z1⟩, hsteps⟩ := (backOf (W := W) (len := 3) (Q := fun v h L => Gc v h ∧ Fr n0 L) (con (hz C X eT)) C.2.1 w4 w3 hf hl) m meth c ⟨T.setVm vm₁, locs, k, n⟩ (mkF m pc Ls rest) (.invokevirtual i) mk (.ref a :: argsL).toArray X₁ rfl (hsz.trans C.2.2.2.1.symm) (hb C.2.2.1 hd) (by show 2 * 0 + _ ≤ _; rw [Nat.mul_zero, Nat.zero_add]; exact Nat.le_of_eq hW) (X₁.named hnamed) ⟨rfl, eT, hc, hs⟩
  dsimp only [Pt.U, Pt.locs, Pt.cells, Pt.slots] at X' l1 y1 z1 hsteps hQ
  subst l1 y1 z1
  exact step (fun t q => (hstep₁ _ fun acts => by rw [doInvoke_state]; exact hsteps).trans q) (g T'.heap v hQ T' ⟨_, Fr.app F hF, X', rfl⟩)
theorem arraycopy (C : Cx p s m meth c Z n0 own bytes ml ret) {i : Nat} {a b : Addr} {ka kb : ClassId} {ty : FieldType} {za zb sp dp nn : Int32} {vs vd : List Value} {dv dd : Value} {W : Nat}
    (w1 : (Cond.methodLink own i Jvm.Stand.acN).before a0 Z = true) (w2 : (Cond.native Jvm.Stand.acN).before a0 Z = true) (w3 : (Cond.static Jvm.Stand.acN).before a0 Z = true) (w4 : (Cond.initialized "java/lang/System").before a0 Z = true)
    (A : Arv Z h a ka ty za vs dv) (B : Arv Z h b kb ty zb vd dd) (hty : refKind ty = false) (h1 : 0 ≤ sp.toInt) (h2 : 0 ≤ dp.toInt) (h3 : 0 ≤ nn.toInt) (h4 : sp.toInt + nn.toInt ≤ za.toInt) (h5 : dp.toInt + nn.toInt ≤ zb.toInt) (hl : dp.toInt.toNat + nn.toInt.toNat ≤ vd.length) (ge : n0 ≤ b)
    (hd : decode bytes pc = .ok (.invokestatic i, 3)) (hp : pc + 3 = pc') (hsz : Ls.size = ml) (hf : 1 ≤ R.frames) (hW : (S.map fun v => v.category).sum = W) (hlo : W + 18 ≤ R.locals)
    (g : ∀ h', Keep h h' [b] → Arv Z h' b kb ty zb (vd.take dp.toInt.toNat ++ (List.range nn.toInt.toNat).map (fun j => vs.getD (sp.toInt.toNat + j) dv) ++ vd.drop (dp.toInt.toNat + nn.toInt.toNat)) dd → Go p l e R s m args below meth c Y n0 G h' k n (mkF m pc' Ls S)) :
    Go p l e R s m args below meth c Y n0 G h k n (mkF m pc Ls (.int nn :: .int dp :: .ref b :: .int sp :: .ref a :: S)) := fun T ⟨locs, F, X, eT⟩ => by
  subst hp
  have nn0 : ∀ {x : Int32}, 0 ≤ x.toInt → ¬ x < 0 := fun {x} q w => by have := Int32.lt_iff_toInt_lt.mp w; simp only [Int32.reduceToInt] at this; omega
  obtain ⟨T', h', L', X', e', F', K', V', st⟩ := cpA X C.1 C.2.1 C.2.2.2.2.1 w1 w2 w3 w4 eT A B (Or.inl ⟨rfl, hty⟩) (nn0 h1) (nn0 h2) (nn0 h3) (by show sp.toInt.toNat + nn.toInt.toNat ≤ za.toInt.toNat; omega) (by show dp.toInt.toNat + nn.toInt.toNat ≤ zb.toInt.toNat; omega) rfl hl F ge
    (g := mkF m pc Ls (.int nn :: .int dp :: .ref b :: .int sp :: .ref a :: S)) rfl (hsz.trans C.2.2.2.1.symm) rfl (hb C.2.2.1 hd) hf (W := W) (by show 2 * 0 + _ ≤ _; rw [Nat.mul_zero, Nat.zero_add]; exact Nat.le_of_eq hW) (by show W + (7 + 11) ≤ _; exact hlo)
  exact step st (g h' K' V' T' ⟨_, F', X', e'⟩)
theorem nf_sel (C : Cx p s m meth c Z n0 own bytes ml ret) {Cn : String} {y : MethodName} (w : (Cond.selects Cn y y).before a0 Z = true) : NotFace s y := notFace_of_selects (args := #[]) (mvT C.2.1 w)
theorem initObj (C : Cx p s m meth c Z n0 own bytes ml ret) {i : Nat} {a : Addr} {W : Nat} (w1 : (Cond.methodLink own i Lib.objectInit).before a0 Z = true) (w2 : (Cond.instanceMethod Lib.objectInit).before a0 Z = true) (w3 : (Cond.code Lib.objectInit ⟨#[0xb1]⟩ 1 none).before a0 Z = true)
    (hd : decode bytes pc = .ok (.invokespecial i, 3)) (hp : pc + 3 = pc') (hsz : Ls.size = ml) (hf : 1 ≤ R.frames) (hW : (S.map fun v => v.category).sum = W) (hl : W + 12 ≤ R.locals)
    (g : Go p l e R s m args below meth c Y n0 G h k n (mkF m pc' Ls S)) : Go p l e R s m args below meth c Y n0 G h k n (mkF m pc Ls (.ref a :: S)) := fun T ⟨locs, F, X, eT⟩ => by
  subst hp
  obtain ⟨T', X', e', st⟩ := initO X C.1 C.2.1 C.2.2.2.2.1 w1 w2 w3 eT (g := mkF m pc Ls (.ref a :: S)) rfl (hsz.trans C.2.2.2.1.symm) rfl (hb C.2.2.1 hd) hf (W := W) (by show 2 * 0 + _ ≤ _; rw [Nat.mul_zero, Nat.zero_add]; exact Nat.le_of_eq hW) hl
  exact step st (g T' ⟨_, F, X', e'⟩)

/-! fields and objects -/
theorem getfield (C : Cx p s m meth c Z n0 own bytes ml ret) {i : Nat} {R0 O f d : String} {a : Addr} {v : Value} (w : (Cond.fieldLink own i R0 f d).before a0 Z = true) (via : Via Z R0 O f d) (F : Fld Z h a O f d v) (hd : decode bytes pc = .ok (.getfield i, 3)) (hp : pc + 3 = pc')
    (g : Go p l e R s m args below meth c Y n0 G h k n (mkF m pc' Ls (v :: S))) : Go p l e R s m args below meth c Y n0 G h k n (mkF m pc Ls (.ref a :: S)) := fun T ⟨locs, Fz, X, eT⟩ => by
  subst hp
  obtain ⟨T', X', e', st⟩ := getF X C.1 C.2.1 C.2.2.2.2.1 (host := "") (Or.inl w) via eT F (g := mkF m pc Ls (.ref a :: S)) rfl rfl (hb C.2.2.1 hd)
  exact step st (g T' ⟨_, Fz, X', e'⟩)
theorem getstatic (C : Cx p s m meth c Z n0 own bytes ml ret) {i : Nat} {R0 O f d : String} {v : Value} (w : (Cond.fieldLink own i R0 f d).before a0 Z = true) (via : Via Z R0 O f d) (F : Sta Z h O f d v) (hd : decode bytes pc = .ok (.getstatic i, 3)) (hp : pc + 3 = pc')
    (g : Go p l e R s m args below meth c Y n0 G h k n (mkF m pc' Ls (v :: S))) : Go p l e R s m args below meth c Y n0 G h k n (mkF m pc Ls S) := fun T ⟨locs, Fz, X, eT⟩ => by
  subst hp
  obtain ⟨T', X', e', st⟩ := getS2 X C.1 C.2.1 C.2.2.2.2.1 (host := "") (Or.inl w) via eT F (g := mkF m pc Ls S) rfl (hb C.2.2.1 hd)
  exact step st (g T' ⟨_, Fz, X', e'⟩)
theorem putfield (C : Cx p s m meth c Z n0 own bytes ml ret) {i kk : Nat} {R0 O f d Cn : String} {ty : FieldType} {a : Addr} {v old : Value} (w : (Cond.fieldLink own i R0 f d).before a0 Z = true) (via : Via Z R0 O f d) (F : Fld Z h a O f d old) (E : Exa Z h a Cn)
    (L : (Cond.lays Cn O f d).before a0 Z = true ∨ ((Cond.laysFinal Cn O f d).before a0 Z = true ∧ own = O ∧ meth.name = "<init>")) (wi : (Cond.instantiable Cn kk).before a0 Z = true) (hty : parseFieldDescriptor d = some ty) (hnr : narrow ty v = v) (hft : fits ty v = true) (hd : decode bytes pc = .ok (.putfield i, 3)) (hp : pc + 3 = pc') (ha : n0 ≤ a)
    (g : ∀ h', Wr h h' a (Jvm.RoadKit.slotOf Z O f d) v → Go p l e R s m args below meth c Y n0 G h' k n (mkF m pc' Ls S)) : Go p l e R s m args below meth c Y n0 G h k n (mkF m pc Ls (v :: .ref a :: S)) := fun T ⟨locs, Fz, X, eT⟩ => by
  subst hp
  obtain ⟨T', h', X', e', W, st⟩ := putF X C.1 C.2.1 C.2.2.2.2.1 (host := "") (Or.inl w) via eT F E L wi hty hnr hft (g := mkF m pc Ls (v :: .ref a :: S)) rfl rfl (hb C.2.2.1 hd)
  exact step st (g h' W T' ⟨_, Fr.snoc X' Fz ha, X', e'⟩)
theorem new (C : Cx p s m meth c Z n0 own bytes ml ret) {i sz : Nat} {Cn : String} (w : (Cond.classLink own i Cn).before a0 Z = true) (wi : (Cond.instantiable Cn sz).before a0 Z = true) (wz : (Cond.initialized Cn).before a0 Z = true) (hd : decode bytes pc = .ok (.new i, 3)) (hp : pc + 3 = pc') (hc : k + 1 ≤ R.cells) (hs : n + sz ≤ R.slots) {k' n' : Nat} (hk' : k + 1 = k') (hn' : n + sz = n')
    (g : ∀ h' a, a = h.size → n0 ≤ a → Ext h h' → Exa Z h' a Cn → (∀ {O nm d : String} {ty : FieldType}, Laid Z a0 Cn O nm d → parseFieldDescriptor d = some ty → Fld Z h' a O nm d (defaultValue ty)) → Go p l e R s m args below meth c Y n0 G h' k' n' (mkF m pc' Ls (.ref a :: S))) :
    Go p l e R s m args below meth c Y n0 G h k n (mkF m pc Ls S) := fun T ⟨locs, Fz, X, eT⟩ => by
  subst hp hk' hn'
  obtain ⟨T', h', X', e', E, A, D, -, st⟩ := newO X C.1 C.2.1 C.2.2.2.2.1 w wi wz eT (g := mkF m pc Ls S) rfl (hb C.2.2.1 hd) hc hs
  exact step st (g h' _ rfl (hz C X eT) E A D T' ⟨_, Fz, X', e'⟩)
/-! arrays -/
theorem newarray (C : Cx p s m meth c Z n0 own bytes ml ret) {aty : ArrayType} {x : Int32} {cap : Nat} (w : (Cond.arrayClass (newarray.typeOf aty)).before a0 Z = true) (hd : decode bytes pc = .ok (.newarray aty, 2)) (hp : pc + 2 = pc') (hx : ¬ x < 0) (hcap : x.toNatClampNeg ≤ cap) (hbig : cap * 8 ≤ 536870912) (hc : k + 1 ≤ R.cells) (hs : n + cap ≤ R.slots) {k' n' : Nat} (hk' : k + 1 = k') (hn' : n + cap = n')
    (g : ∀ h' a kc, a = h.size → n0 ≤ a → Ext h h' → Arv Z h' a kc (newarray.typeOf aty) x [] (defaultValue (newarray.typeOf aty)) → Go p l e R s m args below meth c Y n0 G h' k' n' (mkF m pc' Ls (.ref a :: S))) :
    Go p l e R s m args below meth c Y n0 G h k n (mkF m pc Ls (.int x :: S)) := fun T ⟨locs, Fz, X, eT⟩ => by
  subst hp hk' hn'
  obtain ⟨T', h', kc, X', e', E, A, st⟩ := newP X C.1 C.2.1 w eT (g := mkF m pc Ls (.int x :: S)) rfl (hb C.2.2.1 hd) rfl hx hcap hbig hc hs
  exact step st (g h' _ kc rfl (hz C X eT) E (Arv.new A hx) T' ⟨_, Fz, X', e'⟩)
theorem arraylength (C : Cx p s m meth c Z n0 own bytes ml ret) {a : Addr} {kc : ClassId} {ty : FieldType} {z : Int32} {vs : List Value} {dv : Value} (A : Arv Z h a kc ty z vs dv) (hd : decode bytes pc = .ok (.arraylength, 1)) (hp : pc + 1 = pc')
    (g : Go p l e R s m args below meth c Y n0 G h k n (mkF m pc' Ls (.int z :: S))) : Go p l e R s m args below meth c Y n0 G h k n (mkF m pc Ls (.ref a :: S)) := by
  subst hp
  obtain ⟨cl, Ar, -, Sz, Nz, -, -⟩ := A
  refine stepG (fun T locs X eT t q => X.arraylength C.1 (by rw [eT]; exact Ar.1) (State.isArrayOf_alike C.2.1.alike Ar.2.1) (g := mkF m pc Ls (.ref a :: S)) rfl rfl (hb C.2.2.1 hd) t ?_) g
  rw [len_of Sz Nz]; exact q
theorem arv_at {a : Addr} {kc : ClassId} {ty : FieldType} {z : Int32} {vs : List Value} {dv : Value} (A : Arv Z h a kc ty z vs dv) {j : Int32} (h0 : 0 ≤ j.toInt) (h1 : j.toInt < z.toInt) {v : Value} (hv : vs.getD j.toInt.toNat dv = v) :
    ∃ cl, Arr Z h a cl ty ∧ ¬ (j < 0 ∨ cl.slots.size ≤ j.toNatClampNeg) ∧ cl.slots[j.toNatClampNeg]? = some v := by
  obtain ⟨cl, Ar, -, Sz, Nz, H, -⟩ := A
  have hj : ¬ j < 0 := fun q => by have := Int32.lt_iff_toInt_lt.mp q; simp at this; omega
  have hin := inb_of Sz (j := j) ⟨hj, Int32.lt_iff_toInt_lt.mpr h1⟩
  exact ⟨cl, Ar, hin, H.at hin hv⟩
theorem iaload (C : Cx p s m meth c Z n0 own bytes ml ret) {a : Addr} {kc : ClassId} {z j : Int32} {vs : List Value} {dv v : Value} (A : Arv Z h a kc .int z vs dv) (h0 : 0 ≤ j.toInt) (h1 : j.toInt < z.toInt) (hv : vs.getD j.toInt.toNat dv = v) (hd : decode bytes pc = .ok (.iaload, 1)) (hp : pc + 1 = pc')
    (g : Go p l e R s m args below meth c Y n0 G h k n (mkF m pc' Ls (v :: S))) : Go p l e R s m args below meth c Y n0 G h k n (mkF m pc Ls (.int j :: .ref a :: S)) := by
  subst hp
  obtain ⟨cl, Ar, hin, hat⟩ := arv_at A h0 h1 hv
  exact stepG (fun T locs X eT t q => X.iaload C.1 (by rw [eT]; exact Ar.1) (State.isArrayOf_alike C.2.1.alike Ar.2.1) Ar.2.2 hin hat (g := mkF m pc Ls (.int j :: .ref a :: S)) rfl rfl (hb C.2.2.1 hd) t q) g
theorem laload (C : Cx p s m meth c Z n0 own bytes ml ret) {a : Addr} {kc : ClassId} {z j : Int32} {vs : List Value} {dv v : Value} (A : Arv Z h a kc .long z vs dv) (h0 : 0 ≤ j.toInt) (h1 : j.toInt < z.toInt) (hv : vs.getD j.toInt.toNat dv = v) (hd : decode bytes pc = .ok (.laload, 1)) (hp : pc + 1 = pc')
    (g : Go p l e R s m args below meth c Y n0 G h k n (mkF m pc' Ls (v :: S))) : Go p l e R s m args below meth c Y n0 G h k n (mkF m pc Ls (.int j :: .ref a :: S)) := by
  subst hp
  obtain ⟨cl, Ar, hin, hat⟩ := arv_at A h0 h1 hv
  exact stepG (fun T locs X eT t q => X.laload C.1 (by rw [eT]; exact Ar.1) (State.isArrayOf_alike C.2.1.alike Ar.2.1) Ar.2.2 hin hat (g := mkF m pc Ls (.int j :: .ref a :: S)) rfl rfl (hb C.2.2.1 hd) t q) g
theorem caload (C : Cx p s m meth c Z n0 own bytes ml ret) {a : Addr} {kc : ClassId} {z j : Int32} {vs : List Value} {dv v : Value} (A : Arv Z h a kc .char z vs dv) (h0 : 0 ≤ j.toInt) (h1 : j.toInt < z.toInt) (hv : vs.getD j.toInt.toNat dv = v) (hd : decode bytes pc = .ok (.caload, 1)) (hp : pc + 1 = pc')
    (g : Go p l e R s m args below meth c Y n0 G h k n (mkF m pc' Ls (v :: S))) : Go p l e R s m args below meth c Y n0 G h k n (mkF m pc Ls (.int j :: .ref a :: S)) := by
  subst hp
  obtain ⟨cl, Ar, hin, hat⟩ := arv_at A h0 h1 hv
  exact stepG (fun T locs X eT t q => X.caload C.1 (by rw [eT]; exact Ar.1) (State.isArrayOf_alike C.2.1.alike Ar.2.1) Ar.2.2 hin hat (g := mkF m pc Ls (.int j :: .ref a :: S)) rfl rfl (hb C.2.2.1 hd) t q) g
theorem baload (C : Cx p s m meth c Z n0 own bytes ml ret) {a : Addr} {kc : ClassId} {z j : Int32} {vs : List Value} {dv v : Value} (A : Arv Z h a kc .byte z vs dv) (h0 : 0 ≤ j.toInt) (h1 : j.toInt < z.toInt) (hv : vs.getD j.toInt.toNat dv = v) (hd : decode bytes pc = .ok (.baload, 1)) (hp : pc + 1 = pc')
    (g : Go p l e R s m args below meth c Y n0 G h k n (mkF m pc' Ls (v :: S))) : Go p l e R s m args below meth c Y n0 G h k n (mkF m pc Ls (.int j :: .ref a :: S)) := by
  subst hp
  obtain ⟨cl, Ar, hin, hat⟩ := arv_at A h0 h1 hv
  exact stepG (fun T locs X eT t q => X.baloadBytes C.1 (by rw [eT]; exact Ar.1) (State.isArrayOf_alike C.2.1.alike Ar.2.1) Ar.2.2 hin hat (g := mkF m pc Ls (.int j :: .ref a :: S)) rfl rfl (hb C.2.2.1 hd) t q) g
theorem aaload (C : Cx p s m meth c Z n0 own bytes ml ret) {a : Addr} {cl : Cell} {ty : FieldType} {j : Int32} {v : Value} (A : Arr Z h a cl ty) (hty : ty.isReference = true) (hin : ¬ (j < 0 ∨ cl.slots.size ≤ j.toNatClampNeg)) (hat : cl.slots[j.toNatClampNeg]? = some v) (hd : decode bytes pc = .ok (.aaload, 1)) (hp : pc + 1 = pc')
    (g : Go p l e R s m args below meth c Y n0 G h k n (mkF m pc' Ls (v :: S))) : Go p l e R s m args below meth c Y n0 G h k n (mkF m pc Ls (.int j :: .ref a :: S)) := by
  subst hp
  exact stepG (fun T locs X eT t q => X.aaload C.1 (by rw [eT]; exact A.1) (State.isArrayOf_alike C.2.1.alike A.2.1) hty A.2.2 hin hat (g := mkF m pc Ls (.int j :: .ref a :: S)) rfl rfl (hb C.2.2.1 hd) t q) g
theorem instT (C : Cx p s m meth c Z n0 own bytes ml ret) {i : Nat} {Kn : String} {a : Addr} (w : (Cond.classLink own i Kn).before a0 Z = true) (I : Ins Z h a Kn true) (hd : decode bytes pc = .ok (.instanceof i, 3)) (hp : pc + 3 = pc')
    (g : Go p l e R s m args below meth c Y n0 G h k n (mkF m pc' Ls (.int 1 :: S))) : Go p l e R s m args below meth c Y n0 G h k n (mkF m pc Ls (.ref a :: S)) := fun T ⟨locs, Fz, X, eT⟩ => by
  subst hp
  obtain ⟨T', X', e', st⟩ := instY X C.1 C.2.1 C.2.2.2.2.1 w eT I (g := mkF m pc Ls (.ref a :: S)) rfl rfl (hb C.2.2.1 hd)
  exact step st (g T' ⟨_, Fz, X', e'⟩)
theorem instF (C : Cx p s m meth c Z n0 own bytes ml ret) {i : Nat} {Kn Cn : String} {a : Addr} (w : (Cond.classLink own i Kn).before a0 Z = true) (E : Exa Z h a Cn) (I : ∃ c t, Z.vm.findClass Cn = some c ∧ Z.vm.findClass Kn = some t ∧ Z.vm.assignable c t = false) (hd : decode bytes pc = .ok (.instanceof i, 3)) (hp : pc + 3 = pc')
    (g : Go p l e R s m args below meth c Y n0 G h k n (mkF m pc' Ls (.int 0 :: S))) : Go p l e R s m args below meth c Y n0 G h k n (mkF m pc Ls (.ref a :: S)) := fun T ⟨locs, Fz, X, eT⟩ => by
  subst hp
  obtain ⟨T', X', e', st⟩ := instNo X C.1 C.2.1 C.2.2.2.2.1 w eT E I (g := mkF m pc Ls (.ref a :: S)) rfl rfl (hb C.2.2.1 hd)
  exact step st (g T' ⟨_, Fz, X', e'⟩)
theorem instN (C : Cx p s m meth c Z n0 own bytes ml ret) {i : Nat} (hd : decode bytes pc = .ok (.instanceof i, 3)) (hp : pc + 3 = pc')
    (g : Go p l e R s m args below meth c Y n0 G h k n (mkF m pc' Ls (.int 0 :: S))) : Go p l e R s m args below meth c Y n0 G h k n (mkF m pc Ls (.null :: S)) := by
  subst hp; exact stepG (fun T locs X eT t q => X.instanceofNull C.1 (g := mkF m pc Ls (.null :: S)) rfl rfl (hb C.2.2.1 hd) t q) g
theorem castT (C : Cx p s m meth c Z n0 own bytes ml ret) {i : Nat} {Kn : String} {a : Addr} (w : (Cond.classLink own i Kn).before a0 Z = true) (I : Ins Z h a Kn true) (hd : decode bytes pc = .ok (.checkcast i, 3)) (hp : pc + 3 = pc')
    (g : Go p l e R s m args below meth c Y n0 G h k n (mkF m pc' Ls (.ref a :: S))) : Go p l e R s m args below meth c Y n0 G h k n (mkF m pc Ls (.ref a :: S)) := fun T ⟨locs, Fz, X, eT⟩ => by
  subst hp
  obtain ⟨T', X', e', st⟩ := castY X C.1 C.2.1 C.2.2.2.2.1 w eT I (g := mkF m pc Ls (.ref a :: S)) rfl rfl (hb C.2.2.1 hd)
  exact step st (g T' ⟨_, Fz, X', e'⟩)
theorem ns_root {O Kn : String} {q : Nat} (w : (Cond.noSuperclass O).before a0 Z = true) (wk : (Cond.instantiable Kn q).before a0 Z = true) (hn : O ≠ Kn) : NS Z O Kn := by
  obtain ⟨c, k, h1, h2, h3, -, -⟩ := Cond.noSuperclass_spec w
  obtain ⟨t, kt, g1, -⟩ := Cond.instantiable_spec wk
  have ne := ids_ne h1 g1 hn
  refine ⟨c, t, h1, g1, fun fuel => ?_⟩
  cases fuel with
  | zero => rfl
  | succ f => simp [Vm.isSubclassAux, ne, h2, h3]
theorem ns_no {Cn Sn Kn : String} {q : Nat} (w : (Cond.superclass Cn Sn).before a0 Z = true) (wk : (Cond.instantiable Kn q).before a0 Z = true) (n : NS Z Cn Kn) (hn : Cn ≠ Kn) : ∃ c t, Z.vm.findClass Cn = some c ∧ Z.vm.findClass Kn = some t ∧ Z.vm.assignable c t = false := by
  obtain ⟨c, t, h0, g0, n3⟩ := n
  obtain ⟨p, k, kp, h1, h2, h3, h4, h5, -, h7⟩ := Cond.superclass_spec h0 w
  obtain ⟨t', k', g1, g2, g5, g7, -⟩ := Cond.instantiable_spec wk
  cases g0.symm.trans g1
  have ne := ids_ne h0 g0 hn
  have g8 : k'.isInterface = false := by simp only [Bool.or_eq_false_iff] at g7; exact g7.1
  refine ⟨c, t, h0, g0, ?_⟩
  show Z.vm.assignableAux (255 + 1) c t = false
  simp [Vm.assignableAux, ne, h2, g2, h5, g5, g8, Vm.isSubclass, n3]
theorem iastore (C : Cx p s m meth c Z n0 own bytes ml ret) {a : Addr} {kc : ClassId} {z j : Int32} {x : Int32} {vs : List Value} {dv : Value} (A : Arv Z h a kc .int z vs dv) (h0 : 0 ≤ j.toInt) (h1 : j.toInt < z.toInt) (hlen : j.toInt.toNat < vs.length) (ha : n0 ≤ a) (hd : decode bytes pc = .ok (.iastore, 1)) (hp : pc + 1 = pc')
    (g : ∀ h', Wr h h' a j.toNatClampNeg (.int x) → Arv Z h' a kc .int z (vs.set j.toInt.toNat (.int x)) dv → Go p l e R s m args below meth c Y n0 G h' k n (mkF m pc' Ls S)) : Go p l e R s m args below meth c Y n0 G h k n (mkF m pc Ls (.int x :: .int j :: .ref a :: S)) := fun T ⟨locs, Fz, X, eT⟩ => by
  subst hp
  obtain ⟨cl, Ar, q1, Sz, Nz, H, Gf⟩ := A
  have hj : ¬ j < 0 := fun q => by have := Int32.lt_iff_toInt_lt.mp q; simp at this; omega
  have hin := inb_of Sz (j := j) ⟨hj, Int32.lt_iff_toInt_lt.mpr h1⟩
  obtain ⟨T', h', X', e', W, st⟩ := stI X C.1 C.2.1 eT Ar hin (g := mkF m pc Ls (.int x :: .int j :: .ref a :: S)) rfl rfl (hb C.2.2.1 hd)
  exact step st (g h' W (Arv.set Ar q1 Sz Nz H Gf rfl W _ rfl hlen) T' ⟨_, Fr.snoc X' Fz ha, X', e'⟩)
theorem lastore (C : Cx p s m meth c Z n0 own bytes ml ret) {a : Addr} {kc : ClassId} {z j : Int32} {x : Int64} {vs : List Value} {dv : Value} (A : Arv Z h a kc .long z vs dv) (h0 : 0 ≤ j.toInt) (h1 : j.toInt < z.toInt) (hlen : j.toInt.toNat < vs.length) (ha : n0 ≤ a) (hd : decode bytes pc = .ok (.lastore, 1)) (hp : pc + 1 = pc')
    (g : ∀ h', Wr h h' a j.toNatClampNeg (.long x) → Arv Z h' a kc .long z (vs.set j.toInt.toNat (.long x)) dv → Go p l e R s m args below meth c Y n0 G h' k n (mkF m pc' Ls S)) : Go p l e R s m args below meth c Y n0 G h k n (mkF m pc Ls (.long x :: .int j :: .ref a :: S)) := fun T ⟨locs, Fz, X, eT⟩ => by
  subst hp
  obtain ⟨cl, Ar, q1, Sz, Nz, H, Gf⟩ := A
  have hj : ¬ j < 0 := fun q => by have := Int32.lt_iff_toInt_lt.mp q; simp at this; omega
  have hin := inb_of Sz (j := j) ⟨hj, Int32.lt_iff_toInt_lt.mpr h1⟩
  obtain ⟨T', h', X', e', W, st⟩ := stJ X C.1 C.2.1 eT Ar hin (g := mkF m pc Ls (.long x :: .int j :: .ref a :: S)) rfl rfl (hb C.2.2.1 hd)
  exact step st (g h' W (Arv.set Ar q1 Sz Nz H Gf rfl W _ rfl hlen) T' ⟨_, Fr.snoc X' Fz ha, X', e'⟩)
theorem castore (C : Cx p s m meth c Z n0 own bytes ml ret) {a : Addr} {kc : ClassId} {z j : Int32} {x : Int32} {vs : List Value} {dv : Value} (A : Arv Z h a kc .char z vs dv) (h0 : 0 ≤ j.toInt) (h1 : j.toInt < z.toInt) (hlen : j.toInt.toNat < vs.length) (ha : n0 ≤ a) (hd : decode bytes pc = .ok (.castore, 1)) (hp : pc + 1 = pc')
    (g : ∀ h', Wr h h' a j.toNatClampNeg (.int (nar .char x)) → Arv Z h' a kc .char z (vs.set j.toInt.toNat (.int (nar .char x))) dv → Go p l e R s m args below meth c Y n0 G h' k n (mkF m pc' Ls S)) : Go p l e R s m args below meth c Y n0 G h k n (mkF m pc Ls (.int x :: .int j :: .ref a :: S)) := fun T ⟨locs, Fz, X, eT⟩ => by
  subst hp
  obtain ⟨cl, Ar, q1, Sz, Nz, H, Gf⟩ := A
  have hj : ¬ j < 0 := fun q => by have := Int32.lt_iff_toInt_lt.mp q; simp at this; omega
  have hin := inb_of Sz (j := j) ⟨hj, Int32.lt_iff_toInt_lt.mpr h1⟩
  obtain ⟨T', h', X', e', W, st⟩ := stC X C.1 C.2.1 eT Ar hin (g := mkF m pc Ls (.int x :: .int j :: .ref a :: S)) rfl rfl (hb C.2.2.1 hd)
  exact step st (g h' W (Arv.set Ar q1 Sz Nz H Gf (fits_nar_char _) W _ rfl hlen) T' ⟨_, Fr.snoc X' Fz ha, X', e'⟩)
theorem bastore (C : Cx p s m meth c Z n0 own bytes ml ret) {a : Addr} {kc : ClassId} {z j : Int32} {x : Int32} {vs : List Value} {dv : Value} (A : Arv Z h a kc .byte z vs dv) (h0 : 0 ≤ j.toInt) (h1 : j.toInt < z.toInt) (hlen : j.toInt.toNat < vs.length) (ha : n0 ≤ a) (hd : decode bytes pc = .ok (.bastore, 1)) (hp : pc + 1 = pc')
    (g : ∀ h', Wr h h' a j.toNatClampNeg (.int (nar .byte x)) → Arv Z h' a kc .byte z (vs.set j.toInt.toNat (.int (nar .byte x))) dv → Go p l e R s m args below meth c Y n0 G h' k n (mkF m pc' Ls S)) : Go p l e R s m args below meth c Y n0 G h k n (mkF m pc Ls (.int x :: .int j :: .ref a :: S)) := fun T ⟨locs, Fz, X, eT⟩ => by
  subst hp
  obtain ⟨cl, Ar, q1, Sz, Nz, H, Gf⟩ := A
  have hj : ¬ j < 0 := fun q => by have := Int32.lt_iff_toInt_lt.mp q; simp at this; omega
  have hin := inb_of Sz (j := j) ⟨hj, Int32.lt_iff_toInt_lt.mpr h1⟩
  obtain ⟨T', h', X', e', W, st⟩ := stB X C.1 C.2.1 eT Ar hin (g := mkF m pc Ls (.int x :: .int j :: .ref a :: S)) rfl rfl (hb C.2.2.1 hd)
  exact step st (g h' W (Arv.set Ar q1 Sz Nz H Gf (fits_nar_byte _) W _ rfl hlen) T' ⟨_, Fr.snoc X' Fz ha, X', e'⟩)
end Walk
end Jvm.Pilot.@@N@@.W
namespace Jvm.Pilot.@@N@@
open Jvm Jvm.ClassFile Sem Op Lib Jvm.Free Jvm.Stand Jvm.LawKit Jvm.RoadKit Bundle Jvm.Pilot.@@N@@.Jvm.D
theorem ef_5 (m : MethodId) (o0 : Addr) : entryFrame m #[(.ref o0)] 1 = mkF m 0 #[.val (.ref o0)] [] := by first | (simp [entryFrame, mkF, argsToLocals, Value.category]; done) | rfl
theorem pn_0 : plainName "java/lang/Record" = true := by first | (simp [plainName, overriddenIn]; done) | decide +kernel
theorem d5_0 : decode jdk_30_method_1_code 0 = .ok (.aload_n 0, 1) := by decide +kernel
theorem d5_1 : decode jdk_30_method_1_code 1 = .ok (.invokespecial 1, 3) := by decide +kernel
theorem d5_4 : decode jdk_30_method_1_code 4 = .ok (.return_, 1) := by decide +kernel
theorem ef_4 (m : MethodId) (o0 : Addr) (q1 : Int64) (o2 : Addr) (o3 : Addr) (o4 : Addr) : entryFrame m #[(.ref o0), (.long q1), (.ref o2), (.ref o3), (.ref o4)] 6 = mkF m 0 #[.val (.ref o0), .val (.long q1), .second, .val (.ref o2), .val (.ref o3), .val (.ref o4)] [] := by first | (simp [entryFrame, mkF, argsToLocals, Value.category]; done) | rfl
theorem pn_1 : plainName "com/example/gage/gage/MessageIndex$Entries" = true := by first | (simp [plainName, overriddenIn]; done) | decide +kernel
theorem d4_0 : decode prog_20_method_1_code 0 = .ok (.aload_n 0, 1) := by decide +kernel
theorem d4_1 : decode prog_20_method_1_code 1 = .ok (.invokespecial 3, 3) := by decide +kernel
theorem pd_0 : parseMethodDescriptor "()V" = some ⟨[], none⟩ := by decide +kernel
theorem d4_4 : decode prog_20_method_1_code 4 = .ok (.aload_n 0, 1) := by decide +kernel
theorem d4_5 : decode prog_20_method_1_code 5 = .ok (.lload_n 1, 1) := by decide +kernel
theorem d4_6 : decode prog_20_method_1_code 6 = .ok (.putfield 9, 3) := by decide +kernel
theorem d4_9 : decode prog_20_method_1_code 9 = .ok (.aload_n 0, 1) := by decide +kernel
theorem d4_10 : decode prog_20_method_1_code 10 = .ok (.aload_n 3, 1) := by decide +kernel
theorem d4_11 : decode prog_20_method_1_code 11 = .ok (.putfield 15, 3) := by decide +kernel
theorem d4_14 : decode prog_20_method_1_code 14 = .ok (.aload_n 0, 1) := by decide +kernel
theorem d4_15 : decode prog_20_method_1_code 15 = .ok (.aload 4, 2) := by decide +kernel
theorem d4_17 : decode prog_20_method_1_code 17 = .ok (.putfield 19, 3) := by decide +kernel
theorem d4_20 : decode prog_20_method_1_code 20 = .ok (.aload_n 0, 1) := by decide +kernel
theorem d4_21 : decode prog_20_method_1_code 21 = .ok (.aload 5, 2) := by decide +kernel
theorem d4_23 : decode prog_20_method_1_code 23 = .ok (.putfield 22, 3) := by decide +kernel
theorem d4_26 : decode prog_20_method_1_code 26 = .ok (.return_, 1) := by decide +kernel
theorem ef_3 (m : MethodId) (q0 : Int64) : entryFrame m #[(.long q0)] 2 = mkF m 0 #[.val (.long q0), .second] [] := by first | (simp [entryFrame, mkF, argsToLocals, Value.category]; done) | rfl
theorem d3_0 : decode prog_20_method_2_code 0 = .ok (.new 10, 3) := by decide +kernel
theorem d3_3 : decode prog_20_method_2_code 3 = .ok (.dup, 1) := by decide +kernel
theorem d3_4 : decode prog_20_method_2_code 4 = .ok (.lload_n 0, 1) := by decide +kernel
theorem d3_5 : decode prog_20_method_2_code 5 = .ok (.bipush 17, 2) := by decide +kernel
theorem d3_7 : decode prog_20_method_2_code 7 = .ok (.newarray .long, 2) := by decide +kernel
theorem d3_9 : decode prog_20_method_2_code 9 = .ok (.bipush 16, 2) := by decide +kernel
theorem d3_11 : decode prog_20_method_2_code 11 = .ok (.newarray .long, 2) := by decide +kernel
theorem d3_13 : decode prog_20_method_2_code 13 = .ok (.bipush 16, 2) := by decide +kernel
theorem d3_15 : decode prog_20_method_2_code 15 = .ok (.newarray .long, 2) := by decide +kernel
theorem d3_17 : decode prog_20_method_2_code 17 = .ok (.invokespecial 25, 3) := by decide +kernel
theorem pd_1 : parseMethodDescriptor "(J[J[J[J)V" = some ⟨[.long, (.array .long), (.array .long), (.array .long)], none⟩ := by decide +kernel
theorem d3_20 : decode prog_20_method_2_code 20 = .ok (.areturn, 1) := by decide +kernel
theorem ef_1 (m : MethodId) (o0 : Addr) : entryFrame m #[(.ref o0)] 1 = mkF m 0 #[.val (.ref o0)] [] := by first | (simp [entryFrame, mkF, argsToLocals, Value.category]; done) | rfl
theorem pn_2 : plainName "com/example/gage/gage/MessageIndex" = true := by first | (simp [plainName, overriddenIn]; done) | decide +kernel
theorem d1_0 : decode prog_19_method_1_code 0 = .ok (.aload_n 0, 1) := by decide +kernel
theorem d1_1 : decode prog_19_method_1_code 1 = .ok (.invokespecial 1, 3) := by decide +kernel
theorem d1_4 : decode prog_19_method_1_code 4 = .ok (.aload_n 0, 1) := by decide +kernel
theorem d1_5 : decode prog_19_method_1_code 5 = .ok (.lconst 0, 1) := by decide +kernel
theorem d1_6 : decode prog_19_method_1_code 6 = .ok (.invokestatic 7, 3) := by decide +kernel
theorem pd_2 : parseMethodDescriptor "(J)Lcom/example/gage/gage/MessageIndex$Entries;" = some ⟨[.long], some (.object "com/example/gage/gage/MessageIndex$Entries")⟩ := by decide +kernel
theorem d1_9 : decode prog_19_method_1_code 9 = .ok (.putfield 13, 3) := by decide +kernel
theorem d1_12 : decode prog_19_method_1_code 12 = .ok (.return_, 1) := by decide +kernel
theorem ef_12 (m : MethodId) (o0 : Addr) (q1 : Int64) : entryFrame m #[(.ref o0), (.long q1)] 3 = mkF m 0 #[.val (.ref o0), .val (.long q1), .second] [] := by first | (simp [entryFrame, mkF, argsToLocals, Value.category]; done) | rfl
theorem d12_0 : decode prog_19_method_2_code 0 = .ok (.aload_n 0, 1) := by decide +kernel
theorem d12_1 : decode prog_19_method_2_code 1 = .ok (.getfield 19, 3) := by decide +kernel
theorem d12_4 : decode prog_19_method_2_code 4 = .ok (.aload_n 0, 1) := by decide +kernel
theorem d12_5 : decode prog_19_method_2_code 5 = .ok (.getfield 23, 3) := by decide +kernel
theorem d12_8 : decode prog_19_method_2_code 8 = .ok (.lcmp, 1) := by decide +kernel
theorem d12_9 : decode prog_19_method_2_code 9 = .ok (.ifCond .le 20, 3) := by decide +kernel
theorem d12_29 : decode prog_19_method_2_code 29 = .ok (.aload_n 0, 1) := by decide +kernel
theorem d12_30 : decode prog_19_method_2_code 30 = .ok (.lload_n 1, 1) := by decide +kernel
theorem d12_31 : decode prog_19_method_2_code 31 = .ok (.invokestatic 7, 3) := by decide +kernel
theorem d12_34 : decode prog_19_method_2_code 34 = .ok (.putfield 13, 3) := by decide +kernel
theorem d12_37 : decode prog_19_method_2_code 37 = .ok (.aload_n 0, 1) := by decide +kernel
theorem d12_38 : decode prog_19_method_2_code 38 = .ok (.lload_n 1, 1) := by decide +kernel
theorem d12_39 : decode prog_19_method_2_code 39 = .ok (.putfield 35, 3) := by decide +kernel
theorem d12_42 : decode prog_19_method_2_code 42 = .ok (.aload_n 0, 1) := by decide +kernel
theorem d12_43 : decode prog_19_method_2_code 43 = .ok (.lload_n 1, 1) := by decide +kernel
theorem d12_44 : decode prog_19_method_2_code 44 = .ok (.putfield 23, 3) := by decide +kernel
theorem d12_47 : decode prog_19_method_2_code 47 = .ok (.aload_n 0, 1) := by decide +kernel
theorem d12_48 : decode prog_19_method_2_code 48 = .ok (.lload_n 1, 1) := by decide +kernel
theorem d12_49 : decode prog_19_method_2_code 49 = .ok (.putfield 19, 3) := by decide +kernel
theorem d12_52 : decode prog_19_method_2_code 52 = .ok (.return_, 1) := by decide +kernel
theorem ef_7 (m : MethodId) (q0 : Int64) (q1 : Int64) : entryFrame m #[(.long q0), (.long q1)] 4 = mkF m 0 #[.val (.long q0), .second, .val (.long q1), .second] [] := by first | (simp [entryFrame, mkF, argsToLocals, Value.category]; done) | rfl
theorem d7_0 : decode jdk_29_method_70_code 0 = .ok (.lload_n 0, 1) := by decide +kernel
theorem d7_1 : decode jdk_29_method_70_code 1 = .ok (.lload_n 2, 1) := by decide +kernel
theorem d7_2 : decode jdk_29_method_70_code 2 = .ok (.lcmp, 1) := by decide +kernel
theorem d7_3 : decode jdk_29_method_70_code 3 = .ok (.ifCond .gt 7, 3) := by decide +kernel
theorem d7_10 : decode jdk_29_method_70_code 10 = .ok (.lload_n 2, 1) := by decide +kernel
theorem d7_11 : decode jdk_29_method_70_code 11 = .ok (.lreturn, 1) := by decide +kernel
theorem d7_6 : decode jdk_29_method_70_code 6 = .ok (.lload_n 0, 1) := by decide +kernel
theorem d7_7 : decode jdk_29_method_70_code 7 = .ok (.goto 4, 3) := by decide +kernel
theorem ef_8 (m : MethodId) (q0 : Int64) (q1 : Int64) : entryFrame m #[(.long q0), (.long q1)] 4 = mkF m 0 #[.val (.long q0), .second, .val (.long q1), .second] [] := by first | (simp [entryFrame, mkF, argsToLocals, Value.category]; done) | rfl
theorem d8_0 : decode jdk_29_method_66_code 0 = .ok (.lload_n 0, 1) := by decide +kernel
theorem d8_1 : decode jdk_29_method_66_code 1 = .ok (.lload_n 2, 1) := by decide +kernel
theorem d8_2 : decode jdk_29_method_66_code 2 = .ok (.lcmp, 1) := by decide +kernel
theorem d8_3 : decode jdk_29_method_66_code 3 = .ok (.ifCond .lt 7, 3) := by decide +kernel
theorem d8_10 : decode jdk_29_method_66_code 10 = .ok (.lload_n 2, 1) := by decide +kernel
theorem d8_11 : decode jdk_29_method_66_code 11 = .ok (.lreturn, 1) := by decide +kernel
theorem d8_6 : decode jdk_29_method_66_code 6 = .ok (.lload_n 0, 1) := by decide +kernel
theorem d8_7 : decode jdk_29_method_66_code 7 = .ok (.goto 4, 3) := by decide +kernel
theorem ef_6 (m : MethodId) (o0 : Addr) (q1 : Int64) : entryFrame m #[(.ref o0), (.long q1)] 3 = mkF m 0 #[.val (.ref o0), .val (.long q1), .second] [] := by first | (simp [entryFrame, mkF, argsToLocals, Value.category]; done) | rfl
theorem d6_0 : decode prog_19_method_4_code 0 = .ok (.aload_n 0, 1) := by decide +kernel
theorem d6_1 : decode prog_19_method_4_code 1 = .ok (.aload_n 0, 1) := by decide +kernel
theorem d6_2 : decode prog_19_method_4_code 2 = .ok (.getfield 23, 3) := by decide +kernel
theorem d6_5 : decode prog_19_method_4_code 5 = .ok (.lload_n 1, 1) := by decide +kernel
theorem d6_6 : decode prog_19_method_4_code 6 = .ok (.aload_n 0, 1) := by decide +kernel
theorem d6_7 : decode prog_19_method_4_code 7 = .ok (.getfield 19, 3) := by decide +kernel
theorem d6_10 : decode prog_19_method_4_code 10 = .ok (.invokestatic 66, 3) := by decide +kernel
theorem pd_3 : parseMethodDescriptor "(JJ)J" = some ⟨[.long, .long], some .long⟩ := by decide +kernel
theorem d6_13 : decode prog_19_method_4_code 13 = .ok (.invokestatic 72, 3) := by decide +kernel
theorem d6_16 : decode prog_19_method_4_code 16 = .ok (.putfield 23, 3) := by decide +kernel
theorem d6_19 : decode prog_19_method_4_code 19 = .ok (.return_, 1) := by decide +kernel
theorem ef_9 (m : MethodId) (o0 : Addr) : entryFrame m #[(.ref o0)] 1 = mkF m 0 #[.val (.ref o0)] [] := by first | (simp [entryFrame, mkF, argsToLocals, Value.category]; done) | rfl
theorem d9_0 : decode prog_19_method_6_code 0 = .ok (.aload_n 0, 1) := by decide +kernel
theorem d9_1 : decode prog_19_method_6_code 1 = .ok (.getfield 23, 3) := by decide +kernel
theorem d9_4 : decode prog_19_method_6_code 4 = .ok (.lreturn, 1) := by decide +kernel
theorem ef_11 (m : MethodId) (o0 : Addr) : entryFrame m #[(.ref o0)] 1 = mkF m 0 #[.val (.ref o0)] [] := by first | (simp [entryFrame, mkF, argsToLocals, Value.category]; done) | rfl
theorem d11_0 : decode prog_19_method_7_code 0 = .ok (.aload_n 0, 1) := by decide +kernel
theorem d11_1 : decode prog_19_method_7_code 1 = .ok (.getfield 19, 3) := by decide +kernel
theorem d11_4 : decode prog_19_method_7_code 4 = .ok (.lreturn, 1) := by decide +kernel
theorem ef_10 (m : MethodId) (o0 : Addr) (q1 : Int64) : entryFrame m #[(.ref o0), (.long q1)] 3 = mkF m 0 #[.val (.ref o0), .val (.long q1), .second] [] := by first | (simp [entryFrame, mkF, argsToLocals, Value.category]; done) | rfl
theorem d10_0 : decode prog_19_method_8_code 0 = .ok (.lload_n 1, 1) := by decide +kernel
theorem d10_1 : decode prog_19_method_8_code 1 = .ok (.aload_n 0, 1) := by decide +kernel
theorem d10_2 : decode prog_19_method_8_code 2 = .ok (.getfield 23, 3) := by decide +kernel
theorem d10_5 : decode prog_19_method_8_code 5 = .ok (.lcmp, 1) := by decide +kernel
theorem d10_6 : decode prog_19_method_8_code 6 = .ok (.ifCond .lt 16, 3) := by decide +kernel
theorem d10_22 : decode prog_19_method_8_code 22 = .ok (.iconst 0, 1) := by decide +kernel
theorem d10_23 : decode prog_19_method_8_code 23 = .ok (.ireturn, 1) := by decide +kernel
theorem d10_9 : decode prog_19_method_8_code 9 = .ok (.lload_n 1, 1) := by decide +kernel
theorem d10_10 : decode prog_19_method_8_code 10 = .ok (.aload_n 0, 1) := by decide +kernel
theorem d10_11 : decode prog_19_method_8_code 11 = .ok (.getfield 19, 3) := by decide +kernel
theorem d10_14 : decode prog_19_method_8_code 14 = .ok (.lcmp, 1) := by decide +kernel
theorem d10_15 : decode prog_19_method_8_code 15 = .ok (.ifCond .ge 7, 3) := by decide +kernel
theorem d10_18 : decode prog_19_method_8_code 18 = .ok (.iconst 1, 1) := by decide +kernel
theorem d10_19 : decode prog_19_method_8_code 19 = .ok (.goto 4, 3) := by decide +kernel
theorem ef_0 (m : MethodId) (q0 : Int64) (q1 : Int64) (q2 : Int64) (p3 : Int32) : entryFrame m #[(.long q0), (.long q1), (.long q2), (.int p3)] maxLocals = mkF m 0 #[.val (.long q0), .second, .val (.long q1), .second, .val (.long q2), .second, .val (.int p3), .unset, .unset, .unset, .unset, .unset, .unset] [] := by first | (simp [entryFrame, mkF, argsToLocals, Value.category, maxLocals]; done) | rfl
theorem pn_3 : plainName "com/example/gage/gage/MessageIndexHoldsPinLaw" = true := by first | (simp [plainName, overriddenIn]; done) | decide +kernel
theorem pd_4 : parseMethodDescriptor "(J)Z" = some ⟨[.long], some .boolean⟩ := by decide +kernel
theorem pd_5 : parseMethodDescriptor "()J" = some ⟨[], some .long⟩ := by decide +kernel
theorem pd_6 : parseMethodDescriptor "(J)V" = some ⟨[.long], none⟩ := by decide +kernel
def own_MI (Z : State) (h : Heap) (a : Addr) (f e : Int64) (v : Value) (t : Int64) : Prop := Exa Z h a "com/example/gage/gage/MessageIndex" ∧ Fld Z h a "com/example/gage/gage/MessageIndex" "entries" "Lcom/example/gage/gage/MessageIndex$Entries;" v ∧ Fld Z h a "com/example/gage/gage/MessageIndex" "first" "J" (.long f) ∧ Fld Z h a "com/example/gage/gage/MessageIndex" "end" "J" (.long e) ∧ Fld Z h a "com/example/gage/gage/MessageIndex" "trimmedBelow" "J" (.long t)
def own_min (a b : Int64) : Int64 := if b.toInt < a.toInt then b else a
def own_max (a b : Int64) : Int64 := if a.toInt < b.toInt then b else a
set_option maxRecDepth 65536 in
set_option maxHeartbeats 40000000 in
theorem rm5 (l : Launch) (Z : State) (a0 : Array Value) (hw : ∀ d ∈ tables_1, d.before a0 Z = true) (ws : List Jvm.Cond) (o0 : Addr) (h0 : Heap) (n0 : Nat) (Z0 : n0 ≤ h0.size) :
    W.Con l Z (⟨"java/lang/Record", "<init>", "()V"⟩ : MethodName) jdk_30_method_1_code 1 none ws ({ frames := 1, cells := 0, slots := 0, locals := 12 } : Room) ({ frames := 1, cells := 0, slots := 0, locals := 12 } : Room).cells ({ frames := 1, cells := 0, slots := 0, locals := 12 } : Room).slots #[(.ref o0)] h0 n0 (fun v h => v = none ∧ h0 = h) := by
  refine W.enter (plainFor_of_name pn_0) Z0 ?_
  intro p e s m below meth c C hnm hsh
  have C : W.Cx p s m meth c Z n0 "java/lang/Record" jdk_30_method_1_code 1 none := C
  refine W.Go.castF (ef_5 m o0) ?_
  refine W.aloadN C d5_0 rfl rfl rfl ?_
  refine W.initObj C (hw _ (List.mem_of_getElem? (i := 24) rfl)) (hw _ (List.mem_of_getElem? (i := 7) rfl)) (hw _ (List.mem_of_getElem? (i := 8) rfl)) d5_1 rfl rfl (by decide) rfl (by decide) ?_
  refine W.ret0 C d5_4 (by decide) (by decide) (fun _ _ _ _ q => q) ?_
  exact ⟨rfl, rfl⟩
set_option maxRecDepth 65536 in
set_option maxHeartbeats 40000000 in
theorem rm4 (l : Launch) (Z : State) (a0 : Array Value) (hw : ∀ d ∈ tables_1, d.before a0 Z = true) (ws : List Jvm.Cond) (o0 : Addr) (q1 : Int64) (o2 : Addr) (o3 : Addr) (o4 : Addr) (h0 : Heap) (n0 : Nat) (Z0 : n0 ≤ h0.size) (E0 : Exa Z h0 o0 "com/example/gage/gage/MessageIndex$Entries") (F_base : Fld Z h0 o0 "com/example/gage/gage/MessageIndex$Entries" "base" "J" (.long (0 : Int64))) (F_bytesBefore : Fld Z h0 o0 "com/example/gage/gage/MessageIndex$Entries" "bytesBefore" "[J" .null) (F_publishMillis : Fld Z h0 o0 "com/example/gage/gage/MessageIndex$Entries" "publishMillis" "[J" .null) (F_offsets : Fld Z h0 o0 "com/example/gage/gage/MessageIndex$Entries" "offsets" "[J" .null) (g0_o0 : n0 ≤ o0) :
    W.Con l Z (⟨"com/example/gage/gage/MessageIndex$Entries", "<init>", "(J[J[J[J)V"⟩ : MethodName) prog_20_method_1_code 6 none ws ({ frames := 2, cells := 0, slots := 0, locals := 24 } : Room) ({ frames := 2, cells := 0, slots := 0, locals := 24 } : Room).cells ({ frames := 2, cells := 0, slots := 0, locals := 24 } : Room).slots #[(.ref o0), (.long q1), (.ref o2), (.ref o3), (.ref o4)] h0 n0 (fun v h => v = none ∧ Keep h0 h [o0]) := by
  refine W.enter (plainFor_of_name pn_1) Z0 ?_
  intro p e s m below meth c C hnm hsh
  have C : W.Cx p s m meth c Z n0 "com/example/gage/gage/MessageIndex$Entries" prog_20_method_1_code 6 none := C
  refine W.Go.castF (ef_4 m o0 q1 o2 o3 o4) ?_
  refine W.aloadN C d4_0 rfl rfl rfl ?_
  refine W.callSp C (y := (⟨"java/lang/Record", "<init>", "()V"⟩ : MethodName)) (a := o0) rfl (hw _ (List.mem_of_getElem? (i := 19) rfl)) (hw _ (List.mem_of_getElem? (i := 20) rfl)) (hw _ (List.mem_of_getElem? (i := 22) rfl)) (hw _ (List.mem_of_getElem? (i := 23) rfl)) (by decide) (fun hz => rm5 l Z a0 hw [] o0 h0 n0 hz) d4_1 rfl rfl pd_0 rfl (argsL := []) (rest := []) rfl (W := 0) rfl (by decide) (by decide) (by decide) (by decide) (k' := 0) (n' := 0) rfl rfl ?_
  rintro h1 _ ⟨rfl, rfl⟩
  show W.Go p l e _ _ m _ below meth c _ _ _ _ _ _ (mkF m 4 #[.val (.ref o0), .val (.long q1), .second, .val (.ref o2), .val (.ref o3), .val (.ref o4)] [])
  refine W.aloadN C d4_4 rfl rfl rfl ?_
  refine W.lloadN C d4_5 rfl rfl ?_
  refine W.putfield C (hw _ (List.mem_of_getElem? (i := 25) rfl)) Via.refl F_base E0 (Or.inr ⟨(hw _ (List.mem_of_getElem? (i := 26) rfl)), rfl, hnm⟩) (hw _ (List.mem_of_getElem? (i := 14) rfl)) (ty := .long) (by decide) rfl rfl d4_6 rfl g0_o0 ?_
  intro h2 W2
  refine W.aloadN C d4_9 rfl rfl rfl ?_
  refine W.aloadN C d4_10 rfl rfl rfl ?_
  refine W.putfield C (hw _ (List.mem_of_getElem? (i := 27) rfl)) Via.refl (F_bytesBefore.other W2 (Or.inr (slot_ne (Or.inr (hw _ (List.mem_of_getElem? (i := 28) rfl))) (Or.inr (hw _ (List.mem_of_getElem? (i := 26) rfl))) (by decide) (t := (.array .long)) (t' := .long) (by decide) (by decide)))) (E0.wr W2) (Or.inr ⟨(hw _ (List.mem_of_getElem? (i := 28) rfl)), rfl, hnm⟩) (hw _ (List.mem_of_getElem? (i := 14) rfl)) (ty := (.array .long)) (by decide) rfl rfl d4_11 rfl g0_o0 ?_
  intro h3 W3
  refine W.aloadN C d4_14 rfl rfl rfl ?_
  refine W.aload C d4_15 rfl rfl rfl ?_
  refine W.putfield C (hw _ (List.mem_of_getElem? (i := 29) rfl)) Via.refl ((F_publishMillis.other W2 (Or.inr (slot_ne (Or.inr (hw _ (List.mem_of_getElem? (i := 30) rfl))) (Or.inr (hw _ (List.mem_of_getElem? (i := 26) rfl))) (by decide) (t := (.array .long)) (t' := .long) (by decide) (by decide)))).other W3 (Or.inr (slot_ne (Or.inr (hw _ (List.mem_of_getElem? (i := 30) rfl))) (Or.inr (hw _ (List.mem_of_getElem? (i := 28) rfl))) (by decide) (t := (.array .long)) (t' := (.array .long)) (by decide) (by decide)))) ((E0.wr W2).wr W3) (Or.inr ⟨(hw _ (List.mem_of_getElem? (i := 30) rfl)), rfl, hnm⟩) (hw _ (List.mem_of_getElem? (i := 14) rfl)) (ty := (.array .long)) (by decide) rfl rfl d4_17 rfl g0_o0 ?_
  intro h4 W4
  refine W.aloadN C d4_20 rfl rfl rfl ?_
  refine W.aload C d4_21 rfl rfl rfl ?_
  refine W.putfield C (hw _ (List.mem_of_getElem? (i := 31) rfl)) Via.refl (((F_offsets.other W2 (Or.inr (slot_ne (Or.inr (hw _ (List.mem_of_getElem? (i := 32) rfl))) (Or.inr (hw _ (List.mem_of_getElem? (i := 26) rfl))) (by decide) (t := (.array .long)) (t' := .long) (by decide) (by decide)))).other W3 (Or.inr (slot_ne (Or.inr (hw _ (List.mem_of_getElem? (i := 32) rfl))) (Or.inr (hw _ (List.mem_of_getElem? (i := 28) rfl))) (by decide) (t := (.array .long)) (t' := (.array .long)) (by decide) (by decide)))).other W4 (Or.inr (slot_ne (Or.inr (hw _ (List.mem_of_getElem? (i := 32) rfl))) (Or.inr (hw _ (List.mem_of_getElem? (i := 30) rfl))) (by decide) (t := (.array .long)) (t' := (.array .long)) (by decide) (by decide)))) (((E0.wr W2).wr W3).wr W4) (Or.inr ⟨(hw _ (List.mem_of_getElem? (i := 32) rfl)), rfl, hnm⟩) (hw _ (List.mem_of_getElem? (i := 14) rfl)) (ty := (.array .long)) (by decide) rfl rfl d4_23 rfl g0_o0 ?_
  intro h5 W5
  refine W.ret0 C d4_26 (by decide) (by decide) (fun _ _ _ _ q => q) ?_
  exact ⟨rfl, (((((Keep.refl h0 [o0]).wr W2 (Or.inl (List.mem_of_getElem? (i := 0) rfl))).wr W3 (Or.inl (List.mem_of_getElem? (i := 0) rfl))).wr W4 (Or.inl (List.mem_of_getElem? (i := 0) rfl))).wr W5 (Or.inl (List.mem_of_getElem? (i := 0) rfl)))⟩
set_option maxRecDepth 65536 in
set_option maxHeartbeats 40000000 in
theorem rm3 (l : Launch) (Z : State) (a0 : Array Value) (hw : ∀ d ∈ tables_1, d.before a0 Z = true) (ws : List Jvm.Cond) (q0 : Int64) (h0 : Heap) (n0 : Nat) (Z0 : n0 ≤ h0.size) :
    W.Con l Z (⟨"com/example/gage/gage/MessageIndex$Entries", "empty", "(J)Lcom/example/gage/gage/MessageIndex$Entries;"⟩ : MethodName) prog_20_method_2_code 2 (some (.object "com/example/gage/gage/MessageIndex$Entries")) ws ({ frames := 3, cells := 4, slots := 53, locals := 42 } : Room) ({ frames := 3, cells := 4, slots := 53, locals := 42 } : Room).cells ({ frames := 3, cells := 4, slots := 53, locals := 42 } : Room).slots #[(.long q0)] h0 n0 (fun v h => ∃ b : Addr, v = some (.ref b) ∧ Keep h0 h []) := by
  refine W.enter (plainFor_of_name pn_1) Z0 ?_
  intro p e s m below meth c C hnm hsh
  have C : W.Cx p s m meth c Z n0 "com/example/gage/gage/MessageIndex$Entries" prog_20_method_2_code 2 (some (.object "com/example/gage/gage/MessageIndex$Entries")) := C
  refine W.Go.castF (ef_3 m q0) ?_
  refine W.new C (hw _ (List.mem_of_getElem? (i := 13) rfl)) (hw _ (List.mem_of_getElem? (i := 14) rfl)) (hw _ (List.mem_of_getElem? (i := 11) rfl)) d3_0 rfl (by decide) (by decide) (k' := 1) (n' := 4) rfl rfl ?_
  intro h1 b1 gb1 g0_b1 E1 Ab1 Db1
  have sz_b1 : h0.size ≤ b1 := by rw [gb1]; exact (Keep.refl h0 []).1
  have Fb1_base : Fld Z h1 b1 "com/example/gage/gage/MessageIndex$Entries" "base" "J" (.long (0 : Int64)) := Db1 (Or.inr (hw _ (List.mem_of_getElem? (i := 26) rfl))) (ty := .long) (by decide)
  have Fb1_bytesBefore : Fld Z h1 b1 "com/example/gage/gage/MessageIndex$Entries" "bytesBefore" "[J" .null := Db1 (Or.inr (hw _ (List.mem_of_getElem? (i := 28) rfl))) (ty := (.array .long)) (by decide)
  have Fb1_publishMillis : Fld Z h1 b1 "com/example/gage/gage/MessageIndex$Entries" "publishMillis" "[J" .null := Db1 (Or.inr (hw _ (List.mem_of_getElem? (i := 30) rfl))) (ty := (.array .long)) (by decide)
  have Fb1_offsets : Fld Z h1 b1 "com/example/gage/gage/MessageIndex$Entries" "offsets" "[J" .null := Db1 (Or.inr (hw _ (List.mem_of_getElem? (i := 32) rfl))) (ty := (.array .long)) (by decide)
  refine W.dup C d3_3 rfl rfl ?_
  refine W.lloadN C d3_4 rfl rfl ?_
  refine W.bipush C (x := (17 : Int32)) d3_5 rfl rfl ?_
  refine W.newarray C (cap := 17) (hw _ (List.mem_of_getElem? (i := 15) rfl)) d3_7 rfl (by decide) (by decide) (by decide) (by decide) (by decide) (k' := 2) (n' := 21) rfl rfl ?_
  intro h2 b2 kc_b2 gb2 g0_b2 E2 Vb2
  have sz_b2 : h0.size ≤ b2 := by rw [gb2]; exact ((Keep.refl h0 []).ext E1).1
  have ne_b1_b2 : b1 ≠ b2 := Nat.ne_of_lt (by rw [gb2]; exact Ab1.lt)
  have Vb2 : Arv Z h2 b2 kc_b2 .long (17 : Int32) [(.long (0 : Int64)), (.long (0 : Int64)), (.long (0 : Int64)), (.long (0 : Int64)), (.long (0 : Int64)), (.long (0 : Int64)), (.long (0 : Int64)), (.long (0 : Int64)), (.long (0 : Int64)), (.long (0 : Int64)), (.long (0 : Int64)), (.long (0 : Int64)), (.long (0 : Int64)), (.long (0 : Int64)), (.long (0 : Int64)), (.long (0 : Int64)), (.long (0 : Int64))] (.long (0 : Int64)) := Vb2.pad (pad_rep [] (.long (0 : Int64)) 17)
  refine W.bipush C (x := (16 : Int32)) d3_9 rfl rfl ?_
  refine W.newarray C (cap := 16) (hw _ (List.mem_of_getElem? (i := 15) rfl)) d3_11 rfl (by decide) (by decide) (by decide) (by decide) (by decide) (k' := 3) (n' := 37) rfl rfl ?_
  intro h3 b3 kc_b3 gb3 g0_b3 E3 Vb3
  have sz_b3 : h0.size ≤ b3 := by rw [gb3]; exact (((Keep.refl h0 []).ext E1).ext E2).1
  have ne_b1_b3 : b1 ≠ b3 := Nat.ne_of_lt (by rw [gb3]; exact (Ab1.ext E2).lt)
  have ne_b2_b3 : b2 ≠ b3 := Nat.ne_of_lt (by rw [gb3]; exact Vb2.lt)
  have Vb3 : Arv Z h3 b3 kc_b3 .long (16 : Int32) [(.long (0 : Int64)), (.long (0 : Int64)), (.long (0 : Int64)), (.long (0 : Int64)), (.long (0 : Int64)), (.long (0 : Int64)), (.long (0 : Int64)), (.long (0 : Int64)), (.long (0 : Int64)), (.long (0 : Int64)), (.long (0 : Int64)), (.long (0 : Int64)), (.long (0 : Int64)), (.long (0 : Int64)), (.long (0 : Int64)), (.long (0 : Int64))] (.long (0 : Int64)) := Vb3.pad (pad_rep [] (.long (0 : Int64)) 16)
  refine W.bipush C (x := (16 : Int32)) d3_13 rfl rfl ?_
  refine W.newarray C (cap := 16) (hw _ (List.mem_of_getElem? (i := 15) rfl)) d3_15 rfl (by decide) (by decide) (by decide) (by decide) (by decide) (k' := 4) (n' := 53) rfl rfl ?_
  intro h4 b4 kc_b4 gb4 g0_b4 E4 Vb4
  have sz_b4 : h0.size ≤ b4 := by rw [gb4]; exact ((((Keep.refl h0 []).ext E1).ext E2).ext E3).1
  have ne_b1_b4 : b1 ≠ b4 := Nat.ne_of_lt (by rw [gb4]; exact ((Ab1.ext E2).ext E3).lt)
  have ne_b2_b4 : b2 ≠ b4 := Nat.ne_of_lt (by rw [gb4]; exact (Vb2.ext E3).lt)
  have ne_b3_b4 : b3 ≠ b4 := Nat.ne_of_lt (by rw [gb4]; exact Vb3.lt)
  have Vb4 : Arv Z h4 b4 kc_b4 .long (16 : Int32) [(.long (0 : Int64)), (.long (0 : Int64)), (.long (0 : Int64)), (.long (0 : Int64)), (.long (0 : Int64)), (.long (0 : Int64)), (.long (0 : Int64)), (.long (0 : Int64)), (.long (0 : Int64)), (.long (0 : Int64)), (.long (0 : Int64)), (.long (0 : Int64)), (.long (0 : Int64)), (.long (0 : Int64)), (.long (0 : Int64)), (.long (0 : Int64))] (.long (0 : Int64)) := Vb4.pad (pad_rep [] (.long (0 : Int64)) 16)
  refine W.callSp C (y := (⟨"com/example/gage/gage/MessageIndex$Entries", "<init>", "(J[J[J[J)V"⟩ : MethodName)) (a := b1) rfl (hw _ (List.mem_of_getElem? (i := 16) rfl)) (hw _ (List.mem_of_getElem? (i := 17) rfl)) (hw _ (List.mem_of_getElem? (i := 11) rfl)) (hw _ (List.mem_of_getElem? (i := 18) rfl)) (by decide) (fun hz => rm4 l Z a0 hw [] b1 q0 b2 b3 b4 h4 n0 hz (((Ab1.ext E2).ext E3).ext E4) (((Fb1_base.ext E2).ext E3).ext E4) (((Fb1_bytesBefore.ext E2).ext E3).ext E4) (((Fb1_publishMillis.ext E2).ext E3).ext E4) (((Fb1_offsets.ext E2).ext E3).ext E4) g0_b1) d3_17 rfl rfl pd_1 rfl (argsL := [(.long q0), (.ref b2), (.ref b3), (.ref b4)]) (rest := [(.ref b1)]) rfl (W := 1) rfl (by decide) (by decide) (by decide) (by decide) (k' := 4) (n' := 53) rfl rfl ?_
  rintro h5 _ ⟨rfl, K5⟩
  show W.Go p l e _ _ m _ below meth c _ _ _ _ _ _ (mkF m 20 #[.val (.long q0), .second] [(.ref b1)])
  refine W.retA C rfl rfl rfl d3_20 (by decide) (by decide) (fun _ _ _ _ q => q) ?_
  exact ⟨_, rfl, ((((((Keep.refl h0 []).ext E1).ext E2).ext E3).ext E4).trans K5 (allS (Or.inr sz_b1) all0))⟩
set_option maxRecDepth 65536 in
set_option maxHeartbeats 40000000 in
theorem rm1 (l : Launch) (Z : State) (a0 : Array Value) (hw : ∀ d ∈ tables_1, d.before a0 Z = true) (ws : List Jvm.Cond) (o0 : Addr) (h0 : Heap) (n0 : Nat) (Z0 : n0 ≤ h0.size) (O : own_MI Z h0 o0 (0 : Int64) (0 : Int64) .null (0 : Int64)) (g0_o0 : n0 ≤ o0) :
    W.Con l Z (⟨"com/example/gage/gage/MessageIndex", "<init>", "()V"⟩ : MethodName) prog_19_method_1_code 1 none ws ({ frames := 4, cells := 4, slots := 53, locals := 56 } : Room) ({ frames := 4, cells := 4, slots := 53, locals := 56 } : Room).cells ({ frames := 4, cells := 4, slots := 53, locals := 56 } : Room).slots #[(.ref o0)] h0 n0 (fun v h => v = none ∧ ∃ w t, own_MI Z h o0 0 0 w t) := by
  refine W.enter (plainFor_of_name pn_2) Z0 ?_
  intro p e s m below meth c C hnm hsh
  have C : W.Cx p s m meth c Z n0 "com/example/gage/gage/MessageIndex" prog_19_method_1_code 1 none := C
  refine W.Go.castF (ef_1 m o0) ?_
  refine W.aloadN C d1_0 rfl rfl rfl ?_
  refine W.initObj C (hw _ (List.mem_of_getElem? (i := 6) rfl)) (hw _ (List.mem_of_getElem? (i := 7) rfl)) (hw _ (List.mem_of_getElem? (i := 8) rfl)) d1_1 rfl rfl (by decide) rfl (by decide) ?_
  refine W.aloadN C d1_4 rfl rfl rfl ?_
  refine W.lconst C (x := (0 : Int64)) d1_5 rfl rfl ?_
  refine W.callS C (y := (⟨"com/example/gage/gage/MessageIndex$Entries", "empty", "(J)Lcom/example/gage/gage/MessageIndex$Entries;"⟩ : MethodName)) (hw _ (List.mem_of_getElem? (i := 9) rfl)) (hw _ (List.mem_of_getElem? (i := 10) rfl)) (hw _ (List.mem_of_getElem? (i := 11) rfl)) (hw _ (List.mem_of_getElem? (i := 12) rfl)) (by decide) (fun hz => rm3 l Z a0 hw [] (0 : Int64) h0 n0 hz) d1_6 rfl rfl pd_2 rfl (argsL := [(.long (0 : Int64))]) (rest := [(.ref o0)]) rfl (W := 1) rfl (by decide) (by decide) (by decide) (by decide) (k' := 4) (n' := 53) rfl rfl ?_
  rintro h1 _ ⟨b1, rfl, K1⟩
  show W.Go p l e _ _ m _ below meth c _ _ _ _ _ _ (mkF m 9 #[.val (.ref o0)] [(.ref b1), (.ref o0)])
  refine W.putfield C (hw _ (List.mem_of_getElem? (i := 33) rfl)) Via.refl (O.2.1.keep K1 nin0) (O.1.keep K1) (Or.inl (hw _ (List.mem_of_getElem? (i := 34) rfl))) (hw _ (List.mem_of_getElem? (i := 1) rfl)) (ty := (.object "com/example/gage/gage/MessageIndex$Entries")) (by decide) rfl rfl d1_9 rfl g0_o0 ?_
  intro h2 W2
  refine W.ret0 C d1_12 (by decide) (by decide) (fun _ _ _ _ q => q) ?_
  exact ⟨rfl, _, _, ⟨((O.1.keep K1).wr W2), ((O.2.1.keep K1 nin0).same W2), ((O.2.2.1.keep K1 nin0).other W2 (Or.inr (slot_ne (Or.inl (hw _ (List.mem_of_getElem? (i := 41) rfl))) (Or.inl (hw _ (List.mem_of_getElem? (i := 34) rfl))) (by decide) (t := .long) (t' := (.object "com/example/gage/gage/MessageIndex$Entries")) (by decide) (by decide)))), ((O.2.2.2.1.keep K1 nin0).other W2 (Or.inr (slot_ne (Or.inl (hw _ (List.mem_of_getElem? (i := 43) rfl))) (Or.inl (hw _ (List.mem_of_getElem? (i := 34) rfl))) (by decide) (t := .long) (t' := (.object "com/example/gage/gage/MessageIndex$Entries")) (by decide) (by decide)))), ((O.2.2.2.2.keep K1 nin0).other W2 (Or.inr (slot_ne (Or.inl (hw _ (List.mem_of_getElem? (i := 72) rfl))) (Or.inl (hw _ (List.mem_of_getElem? (i := 34) rfl))) (by decide) (t := .long) (t' := (.object "com/example/gage/gage/MessageIndex$Entries")) (by decide) (by decide))))⟩⟩
set_option maxRecDepth 65536 in
set_option maxHeartbeats 40000000 in
theorem rm12 (l : Launch) (Z : State) (a0 : Array Value) (hw : ∀ d ∈ tables_1, d.before a0 Z = true) (ws : List Jvm.Cond) (o0 : Addr) (q1 ff : Int64) (ev : Value) (tb : Int64) (h0 : Heap) (n0 : Nat) (Z0 : n0 ≤ h0.size) (O : own_MI Z h0 o0 ff ff ev tb) (g0_o0 : n0 ≤ o0) :
    W.Con l Z (⟨"com/example/gage/gage/MessageIndex", "startAt", "(J)V"⟩ : MethodName) prog_19_method_2_code 3 none ws ({ frames := 4, cells := 4, slots := 53, locals := 56 } : Room) ({ frames := 4, cells := 4, slots := 53, locals := 56 } : Room).cells ({ frames := 4, cells := 4, slots := 53, locals := 56 } : Room).slots #[(.ref o0), (.long q1)] h0 n0 (fun v h => v = none ∧ ∃ w t, own_MI Z h o0 q1 q1 w t) := by
  refine W.enter (plainFor_of_name pn_2) Z0 ?_
  intro p e s m below meth c C hnm hsh
  have C : W.Cx p s m meth c Z n0 "com/example/gage/gage/MessageIndex" prog_19_method_2_code 3 none := C
  refine W.Go.castF (ef_12 m o0 q1) ?_
  refine W.aloadN C d12_0 rfl rfl rfl ?_
  refine W.getfield C (hw _ (List.mem_of_getElem? (i := 42) rfl)) Via.refl O.2.2.2.1 d12_1 rfl ?_
  refine W.aloadN C d12_4 rfl rfl rfl ?_
  refine W.getfield C (hw _ (List.mem_of_getElem? (i := 40) rfl)) Via.refl O.2.2.1 d12_5 rfl ?_
  refine W.lcif C (pm := 9) (pc' := 29) (pn := 12) d12_8 rfl d12_9 (by decide) rfl rfl (W.ql_le ff ff) (fun hc8 => ?_) (fun hc8 => ?_)
  rotate_left
  · exfalso
    omega
  refine W.aloadN C d12_29 rfl rfl rfl ?_
  refine W.lloadN C d12_30 rfl rfl ?_
  refine W.callS C (y := (⟨"com/example/gage/gage/MessageIndex$Entries", "empty", "(J)Lcom/example/gage/gage/MessageIndex$Entries;"⟩ : MethodName)) (hw _ (List.mem_of_getElem? (i := 9) rfl)) (hw _ (List.mem_of_getElem? (i := 10) rfl)) (hw _ (List.mem_of_getElem? (i := 11) rfl)) (hw _ (List.mem_of_getElem? (i := 12) rfl)) (by decide) (fun hz => rm3 l Z a0 hw [] q1 h0 n0 hz) d12_31 rfl rfl pd_2 rfl (argsL := [(.long q1)]) (rest := [(.ref o0)]) rfl (W := 1) rfl (by decide) (by decide) (by decide) (by decide) (k' := 4) (n' := 53) rfl rfl ?_
  rintro h1 _ ⟨b1, rfl, K1⟩
  show W.Go p l e _ _ m _ below meth c _ _ _ _ _ _ (mkF m 34 #[.val (.ref o0), .val (.long q1), .second] [(.ref b1), (.ref o0)])
  refine W.putfield C (hw _ (List.mem_of_getElem? (i := 33) rfl)) Via.refl (O.2.1.keep K1 nin0) (O.1.keep K1) (Or.inl (hw _ (List.mem_of_getElem? (i := 34) rfl))) (hw _ (List.mem_of_getElem? (i := 1) rfl)) (ty := (.object "com/example/gage/gage/MessageIndex$Entries")) (by decide) rfl rfl d12_34 rfl g0_o0 ?_
  intro h2 W2
  refine W.aloadN C d12_37 rfl rfl rfl ?_
  refine W.lloadN C d12_38 rfl rfl ?_
  refine W.putfield C (hw _ (List.mem_of_getElem? (i := 71) rfl)) Via.refl ((O.2.2.2.2.keep K1 nin0).other W2 (Or.inr (slot_ne (Or.inl (hw _ (List.mem_of_getElem? (i := 72) rfl))) (Or.inl (hw _ (List.mem_of_getElem? (i := 34) rfl))) (by decide) (t := .long) (t' := (.object "com/example/gage/gage/MessageIndex$Entries")) (by decide) (by decide)))) ((O.1.keep K1).wr W2) (Or.inl (hw _ (List.mem_of_getElem? (i := 72) rfl))) (hw _ (List.mem_of_getElem? (i := 1) rfl)) (ty := .long) (by decide) rfl rfl d12_39 rfl g0_o0 ?_
  intro h3 W3
  refine W.aloadN C d12_42 rfl rfl rfl ?_
  refine W.lloadN C d12_43 rfl rfl ?_
  refine W.putfield C (hw _ (List.mem_of_getElem? (i := 40) rfl)) Via.refl (((O.2.2.1.keep K1 nin0).other W2 (Or.inr (slot_ne (Or.inl (hw _ (List.mem_of_getElem? (i := 41) rfl))) (Or.inl (hw _ (List.mem_of_getElem? (i := 34) rfl))) (by decide) (t := .long) (t' := (.object "com/example/gage/gage/MessageIndex$Entries")) (by decide) (by decide)))).other W3 (Or.inr (slot_ne (Or.inl (hw _ (List.mem_of_getElem? (i := 41) rfl))) (Or.inl (hw _ (List.mem_of_getElem? (i := 72) rfl))) (by decide) (t := .long) (t' := .long) (by decide) (by decide)))) (((O.1.keep K1).wr W2).wr W3) (Or.inl (hw _ (List.mem_of_getElem? (i := 41) rfl))) (hw _ (List.mem_of_getElem? (i := 1) rfl)) (ty := .long) (by decide) rfl rfl d12_44 rfl g0_o0 ?_
  intro h4 W4
  refine W.aloadN C d12_47 rfl rfl rfl ?_
  refine W.lloadN C d12_48 rfl rfl ?_
  refine W.putfield C (hw _ (List.mem_of_getElem? (i := 42) rfl)) Via.refl ((((O.2.2.2.1.keep K1 nin0).other W2 (Or.inr (slot_ne (Or.inl (hw _ (List.mem_of_getElem? (i := 43) rfl))) (Or.inl (hw _ (List.mem_of_getElem? (i := 34) rfl))) (by decide) (t := .long) (t' := (.object "com/example/gage/gage/MessageIndex$Entries")) (by decide) (by decide)))).other W3 (Or.inr (slot_ne (Or.inl (hw _ (List.mem_of_getElem? (i := 43) rfl))) (Or.inl (hw _ (List.mem_of_getElem? (i := 72) rfl))) (by decide) (t := .long) (t' := .long) (by decide) (by decide)))).other W4 (Or.inr (slot_ne (Or.inl (hw _ (List.mem_of_getElem? (i := 43) rfl))) (Or.inl (hw _ (List.mem_of_getElem? (i := 41) rfl))) (by decide) (t := .long) (t' := .long) (by decide) (by decide)))) ((((O.1.keep K1).wr W2).wr W3).wr W4) (Or.inl (hw _ (List.mem_of_getElem? (i := 43) rfl))) (hw _ (List.mem_of_getElem? (i := 1) rfl)) (ty := .long) (by decide) rfl rfl d12_49 rfl g0_o0 ?_
  intro h5 W5
  refine W.ret0 C d12_52 (by decide) (by decide) (fun _ _ _ _ q => q) ?_
  exact ⟨rfl, _, _, ⟨(((((O.1.keep K1).wr W2).wr W3).wr W4).wr W5), (((((O.2.1.keep K1 nin0).same W2).other W3 (Or.inr (slot_ne (Or.inl (hw _ (List.mem_of_getElem? (i := 34) rfl))) (Or.inl (hw _ (List.mem_of_getElem? (i := 72) rfl))) (by decide) (t := (.object "com/example/gage/gage/MessageIndex$Entries")) (t' := .long) (by decide) (by decide)))).other W4 (Or.inr (slot_ne (Or.inl (hw _ (List.mem_of_getElem? (i := 34) rfl))) (Or.inl (hw _ (List.mem_of_getElem? (i := 41) rfl))) (by decide) (t := (.object "com/example/gage/gage/MessageIndex$Entries")) (t' := .long) (by decide) (by decide)))).other W5 (Or.inr (slot_ne (Or.inl (hw _ (List.mem_of_getElem? (i := 34) rfl))) (Or.inl (hw _ (List.mem_of_getElem? (i := 43) rfl))) (by decide) (t := (.object "com/example/gage/gage/MessageIndex$Entries")) (t' := .long) (by decide) (by decide)))), (((((O.2.2.1.keep K1 nin0).other W2 (Or.inr (slot_ne (Or.inl (hw _ (List.mem_of_getElem? (i := 41) rfl))) (Or.inl (hw _ (List.mem_of_getElem? (i := 34) rfl))) (by decide) (t := .long) (t' := (.object "com/example/gage/gage/MessageIndex$Entries")) (by decide) (by decide)))).other W3 (Or.inr (slot_ne (Or.inl (hw _ (List.mem_of_getElem? (i := 41) rfl))) (Or.inl (hw _ (List.mem_of_getElem? (i := 72) rfl))) (by decide) (t := .long) (t' := .long) (by decide) (by decide)))).same W4).other W5 (Or.inr (slot_ne (Or.inl (hw _ (List.mem_of_getElem? (i := 41) rfl))) (Or.inl (hw _ (List.mem_of_getElem? (i := 43) rfl))) (by decide) (t := .long) (t' := .long) (by decide) (by decide)))), (((((O.2.2.2.1.keep K1 nin0).other W2 (Or.inr (slot_ne (Or.inl (hw _ (List.mem_of_getElem? (i := 43) rfl))) (Or.inl (hw _ (List.mem_of_getElem? (i := 34) rfl))) (by decide) (t := .long) (t' := (.object "com/example/gage/gage/MessageIndex$Entries")) (by decide) (by decide)))).other W3 (Or.inr (slot_ne (Or.inl (hw _ (List.mem_of_getElem? (i := 43) rfl))) (Or.inl (hw _ (List.mem_of_getElem? (i := 72) rfl))) (by decide) (t := .long) (t' := .long) (by decide) (by decide)))).other W4 (Or.inr (slot_ne (Or.inl (hw _ (List.mem_of_getElem? (i := 43) rfl))) (Or.inl (hw _ (List.mem_of_getElem? (i := 41) rfl))) (by decide) (t := .long) (t' := .long) (by decide) (by decide)))).same W5), (((((O.2.2.2.2.keep K1 nin0).other W2 (Or.inr (slot_ne (Or.inl (hw _ (List.mem_of_getElem? (i := 72) rfl))) (Or.inl (hw _ (List.mem_of_getElem? (i := 34) rfl))) (by decide) (t := .long) (t' := (.object "com/example/gage/gage/MessageIndex$Entries")) (by decide) (by decide)))).same W3).other W4 (Or.inr (slot_ne (Or.inl (hw _ (List.mem_of_getElem? (i := 72) rfl))) (Or.inl (hw _ (List.mem_of_getElem? (i := 41) rfl))) (by decide) (t := .long) (t' := .long) (by decide) (by decide)))).other W5 (Or.inr (slot_ne (Or.inl (hw _ (List.mem_of_getElem? (i := 72) rfl))) (Or.inl (hw _ (List.mem_of_getElem? (i := 43) rfl))) (by decide) (t := .long) (t' := .long) (by decide) (by decide))))⟩⟩
set_option maxRecDepth 65536 in
set_option maxHeartbeats 40000000 in
theorem rm7 (l : Launch) (Z : State) (a0 : Array Value) (hw : ∀ d ∈ tables_1, d.before a0 Z = true) (ws : List Jvm.Cond) (q0 : Int64) (q1 : Int64) (h0 : Heap) (n0 : Nat) (Z0 : n0 ≤ h0.size) :
    W.Con l Z (⟨"java/lang/Math", "min", "(JJ)J"⟩ : MethodName) jdk_29_method_70_code 4 (some .long) ws ({ frames := 0, cells := 0, slots := 0, locals := 0 } : Room) ({ frames := 0, cells := 0, slots := 0, locals := 0 } : Room).cells ({ frames := 0, cells := 0, slots := 0, locals := 0 } : Room).slots #[(.long q0), (.long q1)] h0 n0 (fun v h => v = some (.long (own_min q0 q1)) ∧ h0 = h) := by
  refine W.enter (Jvm.Free.JP.mathPlain rfl (by decide +kernel)) Z0 ?_
  intro p e s m below meth c C hnm hsh
  have C : W.Cx p s m meth c Z n0 "java/lang/Math" jdk_29_method_70_code 4 (some .long) := C
  refine W.Go.castF (ef_7 m q0 q1) ?_
  refine W.lloadN C d7_0 rfl rfl ?_
  refine W.lloadN C d7_1 rfl rfl ?_
  refine W.lcif C (pm := 3) (pc' := 10) (pn := 6) d7_2 rfl d7_3 (by decide) rfl rfl (W.ql_gt q0 q1) (fun hc2 => ?_) (fun hc2 => ?_)
  · refine W.lloadN C d7_10 rfl rfl ?_
    refine W.retL C d7_11 (by decide) (by decide) (fun _ _ _ _ q => q) ?_
    exact ⟨by rw [show own_min q0 q1 = q1 from if_pos hc2], rfl⟩
  · refine W.lloadN C d7_6 rfl rfl ?_
    refine W.goto C (pc' := 11) d7_7 (by decide) rfl ?_
    refine W.retL C d7_11 (by decide) (by decide) (fun _ _ _ _ q => q) ?_
    exact ⟨by rw [show own_min q0 q1 = q0 from if_neg (Int.not_lt.mpr hc2)], rfl⟩
set_option maxRecDepth 65536 in
set_option maxHeartbeats 40000000 in
theorem rm8 (l : Launch) (Z : State) (a0 : Array Value) (hw : ∀ d ∈ tables_1, d.before a0 Z = true) (ws : List Jvm.Cond) (q0 : Int64) (q1 : Int64) (h0 : Heap) (n0 : Nat) (Z0 : n0 ≤ h0.size) :
    W.Con l Z (⟨"java/lang/Math", "max", "(JJ)J"⟩ : MethodName) jdk_29_method_66_code 4 (some .long) ws ({ frames := 0, cells := 0, slots := 0, locals := 0 } : Room) ({ frames := 0, cells := 0, slots := 0, locals := 0 } : Room).cells ({ frames := 0, cells := 0, slots := 0, locals := 0 } : Room).slots #[(.long q0), (.long q1)] h0 n0 (fun v h => v = some (.long (own_max q0 q1)) ∧ h0 = h) := by
  refine W.enter (Jvm.Free.JP.mathPlain rfl (by decide +kernel)) Z0 ?_
  intro p e s m below meth c C hnm hsh
  have C : W.Cx p s m meth c Z n0 "java/lang/Math" jdk_29_method_66_code 4 (some .long) := C
  refine W.Go.castF (ef_8 m q0 q1) ?_
  refine W.lloadN C d8_0 rfl rfl ?_
  refine W.lloadN C d8_1 rfl rfl ?_
  refine W.lcif C (pm := 3) (pc' := 10) (pn := 6) d8_2 rfl d8_3 (by decide) rfl rfl (W.ql_lt q0 q1) (fun hc2 => ?_) (fun hc2 => ?_)
  · refine W.lloadN C d8_10 rfl rfl ?_
    refine W.retL C d8_11 (by decide) (by decide) (fun _ _ _ _ q => q) ?_
    exact ⟨by rw [show own_max q0 q1 = q1 from if_pos hc2], rfl⟩
  · refine W.lloadN C d8_6 rfl rfl ?_
    refine W.goto C (pc' := 11) d8_7 (by decide) rfl ?_
    refine W.retL C d8_11 (by decide) (by decide) (fun _ _ _ _ q => q) ?_
    exact ⟨by rw [show own_max q0 q1 = q0 from if_neg (Int.not_lt.mpr hc2)], rfl⟩
set_option maxRecDepth 65536 in
set_option maxHeartbeats 40000000 in
theorem rm6 (l : Launch) (Z : State) (a0 : Array Value) (hw : ∀ d ∈ tables_1, d.before a0 Z = true) (ws : List Jvm.Cond) (o0 : Addr) (q1 ff : Int64) (ev : Value) (tb : Int64) (h0 : Heap) (n0 : Nat) (Z0 : n0 ≤ h0.size) (O : own_MI Z h0 o0 ff ff ev tb) (g0_o0 : n0 ≤ o0) :
    W.Con l Z (⟨"com/example/gage/gage/MessageIndex", "release", "(J)V"⟩ : MethodName) prog_19_method_4_code 3 none ws ({ frames := 1, cells := 0, slots := 0, locals := 18 } : Room) ({ frames := 1, cells := 0, slots := 0, locals := 18 } : Room).cells ({ frames := 1, cells := 0, slots := 0, locals := 18 } : Room).slots #[(.ref o0), (.long q1)] h0 n0 (fun v h => v = none ∧ ∃ w t, own_MI Z h o0 ff ff w t) := by
  refine W.enter (plainFor_of_name pn_2) Z0 ?_
  intro p e s m below meth c C hnm hsh
  have C : W.Cx p s m meth c Z n0 "com/example/gage/gage/MessageIndex" prog_19_method_4_code 3 none := C
  refine W.Go.castF (ef_6 m o0 q1) ?_
  refine W.aloadN C d6_0 rfl rfl rfl ?_
  refine W.aloadN C d6_1 rfl rfl rfl ?_
  refine W.getfield C (hw _ (List.mem_of_getElem? (i := 40) rfl)) Via.refl O.2.2.1 d6_2 rfl ?_
  refine W.lloadN C d6_5 rfl rfl ?_
  refine W.aloadN C d6_6 rfl rfl rfl ?_
  refine W.getfield C (hw _ (List.mem_of_getElem? (i := 42) rfl)) Via.refl O.2.2.2.1 d6_7 rfl ?_
  refine W.callS C (y := (⟨"java/lang/Math", "min", "(JJ)J"⟩ : MethodName)) (hw _ (List.mem_of_getElem? (i := 44) rfl)) (hw _ (List.mem_of_getElem? (i := 45) rfl)) (hw _ (List.mem_of_getElem? (i := 46) rfl)) (hw _ (List.mem_of_getElem? (i := 47) rfl)) (by decide) (fun hz => rm7 l Z a0 hw [] q1 ff h0 n0 hz) d6_10 rfl rfl pd_3 rfl (argsL := [(.long q1), (.long ff)]) (rest := [(.long ff), (.ref o0)]) rfl (W := 3) rfl (by decide) (by decide) (by decide) (by decide) (k' := 0) (n' := 0) rfl rfl ?_
  rintro h1 _ ⟨rfl, rfl⟩
  show W.Go p l e _ _ m _ below meth c _ _ _ _ _ _ (mkF m 13 #[.val (.ref o0), .val (.long q1), .second] [(.long (own_min q1 ff)), (.long ff), (.ref o0)])
  refine W.callS C (y := (⟨"java/lang/Math", "max", "(JJ)J"⟩ : MethodName)) (hw _ (List.mem_of_getElem? (i := 48) rfl)) (hw _ (List.mem_of_getElem? (i := 49) rfl)) (hw _ (List.mem_of_getElem? (i := 46) rfl)) (hw _ (List.mem_of_getElem? (i := 50) rfl)) (by decide) (fun hz => rm8 l Z a0 hw [] ff (own_min q1 ff) h0 n0 hz) d6_13 rfl rfl pd_3 rfl (argsL := [(.long ff), (.long (own_min q1 ff))]) (rest := [(.ref o0)]) rfl (W := 1) rfl (by decide) (by decide) (by decide) (by decide) (k' := 0) (n' := 0) rfl rfl ?_
  rintro h2 _ ⟨rfl, rfl⟩
  show W.Go p l e _ _ m _ below meth c _ _ _ _ _ _ (mkF m 16 #[.val (.ref o0), .val (.long q1), .second] [(.long (own_max ff (own_min q1 ff))), (.ref o0)])
  refine W.putfield C (hw _ (List.mem_of_getElem? (i := 40) rfl)) Via.refl O.2.2.1 O.1 (Or.inl (hw _ (List.mem_of_getElem? (i := 41) rfl))) (hw _ (List.mem_of_getElem? (i := 1) rfl)) (ty := .long) (by decide) rfl rfl d6_16 rfl g0_o0 ?_
  intro h3 W3
  refine W.ret0 C d6_19 (by decide) (by decide) (fun _ _ _ _ q => q) ?_
  have em : (own_max ff (own_min q1 ff)) = ff := by unfold own_max own_min; split <;> (try split at *) <;> (try split) <;> first | rfl | (apply Int64.toInt_inj.mp; omega)
  have O2 : own_MI Z h3 o0 (own_max ff (own_min q1 ff)) ff ev tb := ⟨(O.1.wr W3), (O.2.1.other W3 (Or.inr (slot_ne (Or.inl (hw _ (List.mem_of_getElem? (i := 34) rfl))) (Or.inl (hw _ (List.mem_of_getElem? (i := 41) rfl))) (by decide) (t := (.object "com/example/gage/gage/MessageIndex$Entries")) (t' := .long) (by decide) (by decide)))), (O.2.2.1.same W3), (O.2.2.2.1.other W3 (Or.inr (slot_ne (Or.inl (hw _ (List.mem_of_getElem? (i := 43) rfl))) (Or.inl (hw _ (List.mem_of_getElem? (i := 41) rfl))) (by decide) (t := .long) (t' := .long) (by decide) (by decide)))), (O.2.2.2.2.other W3 (Or.inr (slot_ne (Or.inl (hw _ (List.mem_of_getElem? (i := 72) rfl))) (Or.inl (hw _ (List.mem_of_getElem? (i := 41) rfl))) (by decide) (t := .long) (t' := .long) (by decide) (by decide))))⟩
  rw [em] at O2
  exact ⟨rfl, _, _, O2⟩
set_option maxRecDepth 65536 in
set_option maxHeartbeats 40000000 in
theorem rm9 (l : Launch) (Z : State) (a0 : Array Value) (hw : ∀ d ∈ tables_1, d.before a0 Z = true) (ws : List Jvm.Cond) (o0 : Addr) (ff : Int64) (ev : Value) (tb : Int64) (h0 : Heap) (n0 : Nat) (Z0 : n0 ≤ h0.size) (O : own_MI Z h0 o0 ff ff ev tb) :
    W.Con l Z (⟨"com/example/gage/gage/MessageIndex", "first", "()J"⟩ : MethodName) prog_19_method_6_code 1 (some .long) ws ({ frames := 0, cells := 0, slots := 0, locals := 0 } : Room) ({ frames := 0, cells := 0, slots := 0, locals := 0 } : Room).cells ({ frames := 0, cells := 0, slots := 0, locals := 0 } : Room).slots #[(.ref o0)] h0 n0 (fun v h => v = some (.long ff) ∧ h0 = h) := by
  refine W.enter (plainFor_of_name pn_2) Z0 ?_
  intro p e s m below meth c C hnm hsh
  have C : W.Cx p s m meth c Z n0 "com/example/gage/gage/MessageIndex" prog_19_method_6_code 1 (some .long) := C
  refine W.Go.castF (ef_9 m o0) ?_
  refine W.aloadN C d9_0 rfl rfl rfl ?_
  refine W.getfield C (hw _ (List.mem_of_getElem? (i := 40) rfl)) Via.refl O.2.2.1 d9_1 rfl ?_
  refine W.retL C d9_4 (by decide) (by decide) (fun _ _ _ _ q => q) ?_
  exact ⟨rfl, rfl⟩
set_option maxRecDepth 65536 in
set_option maxHeartbeats 40000000 in
theorem rm11 (l : Launch) (Z : State) (a0 : Array Value) (hw : ∀ d ∈ tables_1, d.before a0 Z = true) (ws : List Jvm.Cond) (o0 : Addr) (ff : Int64) (ev : Value) (tb : Int64) (h0 : Heap) (n0 : Nat) (Z0 : n0 ≤ h0.size) (O : own_MI Z h0 o0 ff ff ev tb) :
    W.Con l Z (⟨"com/example/gage/gage/MessageIndex", "end", "()J"⟩ : MethodName) prog_19_method_7_code 1 (some .long) ws ({ frames := 0, cells := 0, slots := 0, locals := 0 } : Room) ({ frames := 0, cells := 0, slots := 0, locals := 0 } : Room).cells ({ frames := 0, cells := 0, slots := 0, locals := 0 } : Room).slots #[(.ref o0)] h0 n0 (fun v h => v = some (.long ff) ∧ h0 = h) := by
  refine W.enter (plainFor_of_name pn_2) Z0 ?_
  intro p e s m below meth c C hnm hsh
  have C : W.Cx p s m meth c Z n0 "com/example/gage/gage/MessageIndex" prog_19_method_7_code 1 (some .long) := C
  refine W.Go.castF (ef_11 m o0) ?_
  refine W.aloadN C d11_0 rfl rfl rfl ?_
  refine W.getfield C (hw _ (List.mem_of_getElem? (i := 42) rfl)) Via.refl O.2.2.2.1 d11_1 rfl ?_
  refine W.retL C d11_4 (by decide) (by decide) (fun _ _ _ _ q => q) ?_
  exact ⟨rfl, rfl⟩
set_option maxRecDepth 65536 in
set_option maxHeartbeats 40000000 in
theorem rm10 (l : Launch) (Z : State) (a0 : Array Value) (hw : ∀ d ∈ tables_1, d.before a0 Z = true) (ws : List Jvm.Cond) (o0 : Addr) (q1 ff : Int64) (ev : Value) (tb : Int64) (h0 : Heap) (n0 : Nat) (Z0 : n0 ≤ h0.size) (O : own_MI Z h0 o0 ff ff ev tb) :
    W.Con l Z (⟨"com/example/gage/gage/MessageIndex", "holds", "(J)Z"⟩ : MethodName) prog_19_method_8_code 3 (some .boolean) ws ({ frames := 0, cells := 0, slots := 0, locals := 0 } : Room) ({ frames := 0, cells := 0, slots := 0, locals := 0 } : Room).cells ({ frames := 0, cells := 0, slots := 0, locals := 0 } : Room).slots #[(.ref o0), (.long q1)] h0 n0 (fun v h => v = some (.int 0) ∧ h0 = h) := by
  refine W.enter (plainFor_of_name pn_2) Z0 ?_
  intro p e s m below meth c C hnm hsh
  have C : W.Cx p s m meth c Z n0 "com/example/gage/gage/MessageIndex" prog_19_method_8_code 3 (some .boolean) := C
  refine W.Go.castF (ef_10 m o0 q1) ?_
  refine W.lloadN C d10_0 rfl rfl ?_
  refine W.aloadN C d10_1 rfl rfl rfl ?_
  refine W.getfield C (hw _ (List.mem_of_getElem? (i := 40) rfl)) Via.refl O.2.2.1 d10_2 rfl ?_
  refine W.lcif C (pm := 6) (pc' := 22) (pn := 9) d10_5 rfl d10_6 (by decide) rfl rfl (W.ql_lt q1 ff) (fun hc5 => ?_) (fun hc5 => ?_)
  · refine W.iconst C (x := (0 : Int32)) d10_22 rfl rfl ?_
    refine W.retZ C (w := (0 : Int32)) (by simp) d10_23 (by decide) (by decide) (by decide) (fun _ _ _ _ q => q) ?_
    exact ⟨rfl, rfl⟩
  · refine W.lloadN C d10_9 rfl rfl ?_
    refine W.aloadN C d10_10 rfl rfl rfl ?_
    refine W.getfield C (hw _ (List.mem_of_getElem? (i := 42) rfl)) Via.refl O.2.2.2.1 d10_11 rfl ?_
    refine W.lcif C (pm := 15) (pc' := 22) (pn := 18) d10_14 rfl d10_15 (by decide) rfl rfl (W.ql_ge q1 ff) (fun hc14 => ?_) (fun hc14 => ?_)
    · refine W.iconst C (x := (0 : Int32)) d10_22 rfl rfl ?_
      refine W.retZ C (w := (0 : Int32)) (by simp) d10_23 (by decide) (by decide) (by decide) (fun _ _ _ _ q => q) ?_
      exact ⟨rfl, rfl⟩
    · refine W.iconst C (x := (1 : Int32)) d10_18 rfl rfl ?_
      refine W.goto C (pc' := 23) d10_19 (by decide) rfl ?_
      refine W.retZ C (w := (1 : Int32)) (by simp) d10_23 (by decide) (by decide) (by decide) (fun _ _ _ _ q => q) ?_
      exfalso; omega
set_option maxRecDepth 65536 in
set_option maxHeartbeats 40000000 in
theorem rm0 (l : Launch) (Z : State) (a0 : Array Value) (hw : ∀ d ∈ tables_1, d.before a0 Z = true) (ws : List Jvm.Cond) (q0 : Int64) (q1 : Int64) (q2 : Int64) (p3 : Int32) (h0 : Heap) (n0 : Nat) (Z0 : n0 ≤ h0.size) :
    W.Con l Z x code maxLocals ret ws room_1 32 320 #[(.long q0), (.long q1), (.long q2), (.int p3)] h0 n0 (fun v _ => v = some (.int 1)) := by
  refine W.enter (plainFor_of_name pn_3) Z0 ?_
  intro p e s m below meth c C hnm hsh
  have C : W.Cx p s m meth c Z n0 "com/example/gage/gage/MessageIndexHoldsPinLaw" code 13 (some .boolean) := C
  refine W.Go.castF (ef_0 m q0 q1 q2 p3) ?_
  have J96 : ∀ (b : Addr) (g0_b : n0 ≤ b) (h9 : Heap) (ff : Int64) (ev : Value) (tb : Int64) (O : own_MI Z h9 b ff ff ev tb) (mk : Int32) (qq : Int64), W.Go p l e room_1 s m #[(.long q0), (.long q1), (.long q2), (.int p3)] below meth c (fun s₂ o L => FrameEnd s o s₂ L 32 320) n0 (fun v _ => v = some (.int 1)) h9 (9) (110) (mkF m 96 #[.val (.long q0), .second, .val (.long q1), .second, .val (.long q2), .second, .val (.int p3), .val (.ref b), .val (.long ff), .second, .val (.int mk), .val (.long qq), .second] []) := by
    intro b g0_b h9 ff ev tb O mk qq
    refine W.aload C at_96 rfl rfl rfl ?_
    refine W.lload C at_98 rfl rfl ?_
    refine W.callV C (y := (⟨"com/example/gage/gage/MessageIndex", "holds", "(J)Z"⟩ : MethodName)) (a := b) (hw _ (List.mem_of_getElem? (i := 56) rfl)) (hw _ (List.mem_of_getElem? (i := 57) rfl)) (W.nf_sel C (hw _ (List.mem_of_getElem? (i := 59) rfl))) (hw _ (List.mem_of_getElem? (i := 59) rfl)) (hw _ (List.mem_of_getElem? (i := 58) rfl)) (hw _ (List.mem_of_getElem? (i := 2) rfl)) (hw _ (List.mem_of_getElem? (i := 60) rfl)) (by decide) O.1 (fun hz => rm10 l Z a0 hw [] b qq ff ev tb h9 n0 hz ⟨O.1, O.2.1, O.2.2.1, O.2.2.2.1, O.2.2.2.2⟩) at_100 rfl rfl pd_4 rfl (argsL := [(.long qq)]) (rest := []) rfl (W := 0) rfl (by decide) (by decide) (by decide) (by decide) (k' := 9) (n' := 110) rfl rfl ?_
    rintro h1 _ ⟨rfl, rfl⟩
    show W.Go p l e _ _ m _ below meth c _ _ _ _ _ _ (mkF m 103 #[.val (.long q0), .second, .val (.long q1), .second, .val (.long q2), .second, .val (.int p3), .val (.ref b), .val (.long ff), .second, .val (.int mk), .val (.long qq), .second] [(.int (0 : Int32))])
    refine W.ifc C (pc' := 124) (pn := 106) at_103 (by decide) rfl rfl (W.q_ne (0 : Int32) (0 : Int32)) (fun hc103 => ?_) (fun hc103 => ?_)
    · exact absurd rfl hc103
    refine W.aload C at_106 rfl rfl rfl ?_
    refine W.callV C (y := (⟨"com/example/gage/gage/MessageIndex", "first", "()J"⟩ : MethodName)) (a := b) (hw _ (List.mem_of_getElem? (i := 51) rfl)) (hw _ (List.mem_of_getElem? (i := 52) rfl)) (W.nf_sel C (hw _ (List.mem_of_getElem? (i := 54) rfl))) (hw _ (List.mem_of_getElem? (i := 54) rfl)) (hw _ (List.mem_of_getElem? (i := 53) rfl)) (hw _ (List.mem_of_getElem? (i := 2) rfl)) (hw _ (List.mem_of_getElem? (i := 55) rfl)) (by decide) O.1 (fun hz => rm9 l Z a0 hw [] b ff ev tb h9 n0 hz ⟨O.1, O.2.1, O.2.2.1, O.2.2.2.1, O.2.2.2.2⟩) at_108 rfl rfl pd_5 rfl (argsL := []) (rest := []) rfl (W := 0) rfl (by decide) (by decide) (by decide) (by decide) (k' := 9) (n' := 110) rfl rfl ?_
    rintro h2 _ ⟨rfl, rfl⟩
    show W.Go p l e _ _ m _ below meth c _ _ _ _ _ _ (mkF m 111 #[.val (.long q0), .second, .val (.long q1), .second, .val (.long q2), .second, .val (.int p3), .val (.ref b), .val (.long ff), .second, .val (.int mk), .val (.long qq), .second] [(.long ff)])
    refine W.aload C at_111 rfl rfl rfl ?_
    refine W.callV C (y := (⟨"com/example/gage/gage/MessageIndex", "end", "()J"⟩ : MethodName)) (a := b) (hw _ (List.mem_of_getElem? (i := 61) rfl)) (hw _ (List.mem_of_getElem? (i := 62) rfl)) (W.nf_sel C (hw _ (List.mem_of_getElem? (i := 64) rfl))) (hw _ (List.mem_of_getElem? (i := 64) rfl)) (hw _ (List.mem_of_getElem? (i := 63) rfl)) (hw _ (List.mem_of_getElem? (i := 2) rfl)) (hw _ (List.mem_of_getElem? (i := 65) rfl)) (by decide) O.1 (fun hz => rm11 l Z a0 hw [] b ff ev tb h9 n0 hz ⟨O.1, O.2.1, O.2.2.1, O.2.2.2.1, O.2.2.2.2⟩) at_113 rfl rfl pd_5 rfl (argsL := []) (rest := [(.long ff)]) rfl (W := 2) rfl (by decide) (by decide) (by decide) (by decide) (k' := 9) (n' := 110) rfl rfl ?_
    rintro h3 _ ⟨rfl, rfl⟩
    show W.Go p l e _ _ m _ below meth c _ _ _ _ _ _ (mkF m 116 #[.val (.long q0), .second, .val (.long q1), .second, .val (.long q2), .second, .val (.int p3), .val (.ref b), .val (.long ff), .second, .val (.int mk), .val (.long qq), .second] [(.long ff), (.long ff)])
    refine W.lcif C (pm := 117) (pc' := 124) (pn := 120) at_116 rfl at_117 (by decide) rfl rfl (W.ql_ne ff ff) (fun hc116 => ?_) (fun hc116 => ?_)
    · exact absurd rfl hc116
    refine W.iconst C (x := (1 : Int32)) at_120 rfl rfl ?_
    refine W.goto C (pc' := 125) at_121 (by decide) rfl ?_
    refine W.retZ C (w := (1 : Int32)) (by simp) at_125 (by decide) (by decide) (by decide) (fun _ _ _ _ q => q) ?_
    rfl
  have J36 : ∀ (b : Addr) (g0_b : n0 ≤ b) (h9 : Heap) (ff : Int64) (ev : Value) (tb : Int64) (O : own_MI Z h9 b ff ff ev tb), W.Go p l e room_1 s m #[(.long q0), (.long q1), (.long q2), (.int p3)] below meth c (fun s₂ o L => FrameEnd s o s₂ L 32 320) n0 (fun v _ => v = some (.int 1)) h9 (9) (110) (mkF m 36 #[.val (.long q0), .second, .val (.long q1), .second, .val (.long q2), .second, .val (.int p3), .val (.ref b), .unset, .unset, .unset, .unset, .unset] []) := by
    intro b g0_b h9 ff ev tb O
    refine W.aload C at_36 rfl rfl rfl ?_
    refine W.callV C (y := (⟨"com/example/gage/gage/MessageIndex", "first", "()J"⟩ : MethodName)) (a := b) (hw _ (List.mem_of_getElem? (i := 51) rfl)) (hw _ (List.mem_of_getElem? (i := 52) rfl)) (W.nf_sel C (hw _ (List.mem_of_getElem? (i := 54) rfl))) (hw _ (List.mem_of_getElem? (i := 54) rfl)) (hw _ (List.mem_of_getElem? (i := 53) rfl)) (hw _ (List.mem_of_getElem? (i := 2) rfl)) (hw _ (List.mem_of_getElem? (i := 55) rfl)) (by decide) O.1 (fun hz => rm9 l Z a0 hw [] b ff ev tb h9 n0 hz ⟨O.1, O.2.1, O.2.2.1, O.2.2.2.1, O.2.2.2.2⟩) at_38 rfl rfl pd_5 rfl (argsL := []) (rest := []) rfl (W := 0) rfl (by decide) (by decide) (by decide) (by decide) (k' := 9) (n' := 110) rfl rfl ?_
    rintro h4 _ ⟨rfl, rfl⟩
    show W.Go p l e _ _ m _ below meth c _ _ _ _ _ _ (mkF m 41 #[.val (.long q0), .second, .val (.long q1), .second, .val (.long q2), .second, .val (.int p3), .val (.ref b), .unset, .unset, .unset, .unset, .unset] [(.long ff)])
    refine W.lstore C (Ls' := #[.val (.long q0), .second, .val (.long q1), .second, .val (.long q2), .second, .val (.int p3), .val (.ref b), .val (.long ff), .second, .unset, .unset, .unset]) at_41 rfl rfl ?_
    refine W.iload C at_43 rfl rfl ?_
    refine W.iconst C (x := (2 : Int32)) at_45 rfl rfl ?_
    refine W.iushr C (z := (((p3).toUInt32 >>> ((2 : Int32) &&& 31).toUInt32).toInt32)) at_46 rfl rfl ?_
    refine W.iconst C (x := (3 : Int32)) at_47 rfl rfl ?_
    refine W.iand C (z := ((((p3).toUInt32 >>> ((2 : Int32) &&& 31).toUInt32).toInt32) &&& (3 : Int32))) at_48 rfl rfl ?_
    refine W.istore C (Ls' := #[.val (.long q0), .second, .val (.long q1), .second, .val (.long q2), .second, .val (.int p3), .val (.ref b), .val (.long ff), .second, .val (.int ((((p3).toUInt32 >>> ((2 : Int32) &&& 31).toUInt32).toInt32) &&& (3 : Int32))), .unset, .unset]) at_49 rfl rfl ?_
    refine W.iload C at_51 rfl rfl ?_
    refine W.ifc C (pc' := 62) (pn := 56) at_53 (by decide) rfl rfl (W.q_ne ((((p3).toUInt32 >>> ((2 : Int32) &&& 31).toUInt32).toInt32) &&& (3 : Int32)) (0 : Int32)) (fun hc53 => ?_) (fun hc53 => ?_)
    · refine W.iload C at_62 rfl rfl ?_
      refine W.iconst C (x := (1 : Int32)) at_64 rfl rfl ?_
      refine W.icmp C (pc' := 75) (pn := 68) at_65 (by decide) rfl rfl (W.q_ne ((((p3).toUInt32 >>> ((2 : Int32) &&& 31).toUInt32).toInt32) &&& (3 : Int32)) (1 : Int32)) (fun hc65 => ?_) (fun hc65 => ?_)
      · refine W.iload C at_75 rfl rfl ?_
        refine W.iconst C (x := (2 : Int32)) at_77 rfl rfl ?_
        refine W.icmp C (pc' := 90) (pn := 81) at_78 (by decide) rfl rfl (W.q_ne ((((p3).toUInt32 >>> ((2 : Int32) &&& 31).toUInt32).toInt32) &&& (3 : Int32)) (2 : Int32)) (fun hc78 => ?_) (fun hc78 => ?_)
        · refine W.lload C at_90 rfl rfl ?_
          refine W.lconst C (x := (1 : Int64)) at_92 rfl rfl ?_
          refine W.ladd C (z := (ff + (1 : Int64))) at_93 rfl rfl ?_
          refine W.lstore C (Ls' := #[.val (.long q0), .second, .val (.long q1), .second, .val (.long q2), .second, .val (.int p3), .val (.ref b), .val (.long ff), .second, .val (.int ((((p3).toUInt32 >>> ((2 : Int32) &&& 31).toUInt32).toInt32) &&& (3 : Int32))), .val (.long (ff + (1 : Int64))), .second]) at_94 rfl rfl ?_
          exact W.Go.mono (J96 b g0_b h9 ff ev tb ⟨O.1, O.2.1, O.2.2.1, O.2.2.2.1, O.2.2.2.2⟩ ((((p3).toUInt32 >>> ((2 : Int32) &&& 31).toUInt32).toInt32) &&& (3 : Int32)) (ff + (1 : Int64))) (by decide) (by decide)
        · refine W.lload C at_81 rfl rfl ?_
          refine W.lconst C (x := (1 : Int64)) at_83 rfl rfl ?_
          refine W.lsub C (z := (ff - (1 : Int64))) at_84 rfl rfl ?_
          refine W.lstore C (Ls' := #[.val (.long q0), .second, .val (.long q1), .second, .val (.long q2), .second, .val (.int p3), .val (.ref b), .val (.long ff), .second, .val (.int ((((p3).toUInt32 >>> ((2 : Int32) &&& 31).toUInt32).toInt32) &&& (3 : Int32))), .val (.long (ff - (1 : Int64))), .second]) at_85 rfl rfl ?_
          refine W.goto C (pc' := 96) at_87 (by decide) rfl ?_
          exact W.Go.mono (J96 b g0_b h9 ff ev tb ⟨O.1, O.2.1, O.2.2.1, O.2.2.2.1, O.2.2.2.2⟩ ((((p3).toUInt32 >>> ((2 : Int32) &&& 31).toUInt32).toInt32) &&& (3 : Int32)) (ff - (1 : Int64))) (by decide) (by decide)
      · refine W.lload C at_68 rfl rfl ?_
        refine W.lstore C (Ls' := #[.val (.long q0), .second, .val (.long q1), .second, .val (.long q2), .second, .val (.int p3), .val (.ref b), .val (.long ff), .second, .val (.int ((((p3).toUInt32 >>> ((2 : Int32) &&& 31).toUInt32).toInt32) &&& (3 : Int32))), .val (.long ff), .second]) at_70 rfl rfl ?_
        refine W.goto C (pc' := 96) at_72 (by decide) rfl ?_
        exact W.Go.mono (J96 b g0_b h9 ff ev tb ⟨O.1, O.2.1, O.2.2.1, O.2.2.2.1, O.2.2.2.2⟩ ((((p3).toUInt32 >>> ((2 : Int32) &&& 31).toUInt32).toInt32) &&& (3 : Int32)) ff) (by decide) (by decide)
    · refine W.lloadN C at_56 rfl rfl ?_
      refine W.lstore C (Ls' := #[.val (.long q0), .second, .val (.long q1), .second, .val (.long q2), .second, .val (.int p3), .val (.ref b), .val (.long ff), .second, .val (.int ((((p3).toUInt32 >>> ((2 : Int32) &&& 31).toUInt32).toInt32) &&& (3 : Int32))), .val (.long q1), .second]) at_57 rfl rfl ?_
      refine W.goto C (pc' := 96) at_59 (by decide) rfl ?_
      exact W.Go.mono (J96 b g0_b h9 ff ev tb ⟨O.1, O.2.1, O.2.2.1, O.2.2.2.1, O.2.2.2.2⟩ ((((p3).toUInt32 >>> ((2 : Int32) &&& 31).toUInt32).toInt32) &&& (3 : Int32)) q1) (by decide) (by decide)
  have J22 : ∀ (b : Addr) (g0_b : n0 ≤ b) (h9 : Heap) (ff : Int64) (ev : Value) (tb : Int64) (O : own_MI Z h9 b ff ff ev tb), W.Go p l e room_1 s m #[(.long q0), (.long q1), (.long q2), (.int p3)] below meth c (fun s₂ o L => FrameEnd s o s₂ L 32 320) n0 (fun v _ => v = some (.int 1)) h9 (9) (110) (mkF m 22 #[.val (.long q0), .second, .val (.long q1), .second, .val (.long q2), .second, .val (.int p3), .val (.ref b), .unset, .unset, .unset, .unset, .unset] []) := by
    intro b g0_b h9 ff ev tb O
    refine W.iload C at_22 rfl rfl ?_
    refine W.iconst C (x := (2 : Int32)) at_24 rfl rfl ?_
    refine W.iand C (z := (p3 &&& (2 : Int32))) at_25 rfl rfl ?_
    refine W.ifc C (pc' := 36) (pn := 29) at_26 (by decide) rfl rfl (W.q_eq (p3 &&& (2 : Int32)) (0 : Int32)) (fun hc26 => ?_) (fun hc26 => ?_)
    · exact W.Go.mono (J36 b g0_b h9 ff ev tb ⟨O.1, O.2.1, O.2.2.1, O.2.2.2.1, O.2.2.2.2⟩) (by decide) (by decide)
    · refine W.aload C at_29 rfl rfl rfl ?_
      refine W.lload C at_31 rfl rfl ?_
      refine W.callV C (y := (⟨"com/example/gage/gage/MessageIndex", "release", "(J)V"⟩ : MethodName)) (a := b) (hw _ (List.mem_of_getElem? (i := 35) rfl)) (hw _ (List.mem_of_getElem? (i := 36) rfl)) (W.nf_sel C (hw _ (List.mem_of_getElem? (i := 38) rfl))) (hw _ (List.mem_of_getElem? (i := 38) rfl)) (hw _ (List.mem_of_getElem? (i := 37) rfl)) (hw _ (List.mem_of_getElem? (i := 2) rfl)) (hw _ (List.mem_of_getElem? (i := 39) rfl)) (by decide) O.1 (fun hz => rm6 l Z a0 hw [] b q2 ff ev tb h9 n0 hz ⟨O.1, O.2.1, O.2.2.1, O.2.2.2.1, O.2.2.2.2⟩ g0_b) at_33 rfl rfl pd_6 rfl (argsL := [(.long q2)]) (rest := []) rfl (W := 0) rfl (by decide) (by decide) (by decide) (by decide) (k' := 9) (n' := 110) rfl rfl ?_
      rintro h5 _ ⟨rfl, w5, t5, O5⟩
      show W.Go p l e _ _ m _ below meth c _ _ _ _ _ _ (mkF m 36 #[.val (.long q0), .second, .val (.long q1), .second, .val (.long q2), .second, .val (.int p3), .val (.ref b), .unset, .unset, .unset, .unset, .unset] [])
      exact W.Go.mono (J36 b g0_b h5 ff w5 t5 ⟨O5.1, O5.2.1, O5.2.2.1, O5.2.2.2.1, O5.2.2.2.2⟩) (by decide) (by decide)
  refine W.new C (hw _ (List.mem_of_getElem? (i := 0) rfl)) (hw _ (List.mem_of_getElem? (i := 1) rfl)) (hw _ (List.mem_of_getElem? (i := 2) rfl)) at_0 rfl (by decide) (by decide) (k' := 1) (n' := 4) rfl rfl ?_
  intro h6 b6 gb6 g0_b6 E6 Ab6 Db6
  have Fb6_entries : Fld Z h6 b6 "com/example/gage/gage/MessageIndex" "entries" "Lcom/example/gage/gage/MessageIndex$Entries;" .null := Db6 (Or.inl (hw _ (List.mem_of_getElem? (i := 34) rfl))) (ty := (.object "com/example/gage/gage/MessageIndex$Entries")) (by decide)
  have Fb6_first : Fld Z h6 b6 "com/example/gage/gage/MessageIndex" "first" "J" (.long (0 : Int64)) := Db6 (Or.inl (hw _ (List.mem_of_getElem? (i := 41) rfl))) (ty := .long) (by decide)
  have Fb6_end : Fld Z h6 b6 "com/example/gage/gage/MessageIndex" "end" "J" (.long (0 : Int64)) := Db6 (Or.inl (hw _ (List.mem_of_getElem? (i := 43) rfl))) (ty := .long) (by decide)
  have Fb6_trimmedBelow : Fld Z h6 b6 "com/example/gage/gage/MessageIndex" "trimmedBelow" "J" (.long (0 : Int64)) := Db6 (Or.inl (hw _ (List.mem_of_getElem? (i := 72) rfl))) (ty := .long) (by decide)
  refine W.dup C at_3 rfl rfl ?_
  refine W.callSp C (y := (⟨"com/example/gage/gage/MessageIndex", "<init>", "()V"⟩ : MethodName)) (a := b6) rfl (hw _ (List.mem_of_getElem? (i := 3) rfl)) (hw _ (List.mem_of_getElem? (i := 4) rfl)) (hw _ (List.mem_of_getElem? (i := 2) rfl)) (hw _ (List.mem_of_getElem? (i := 5) rfl)) (by decide) (fun hz => rm1 l Z a0 hw [] b6 h6 n0 hz ⟨Ab6, Fb6_entries, Fb6_first, Fb6_end, Fb6_trimmedBelow⟩ g0_b6) at_4 rfl rfl pd_0 rfl (argsL := []) (rest := [(.ref b6)]) rfl (W := 1) rfl (by decide) (by decide) (by decide) (by decide) (k' := 5) (n' := 57) rfl rfl ?_
  rintro h7 _ ⟨rfl, w7, t7, O7⟩
  show W.Go p l e _ _ m _ below meth c _ _ _ _ _ _ (mkF m 7 #[.val (.long q0), .second, .val (.long q1), .second, .val (.long q2), .second, .val (.int p3), .unset, .unset, .unset, .unset, .unset, .unset] [(.ref b6)])
  refine W.astore C (Ls' := #[.val (.long q0), .second, .val (.long q1), .second, .val (.long q2), .second, .val (.int p3), .val (.ref b6), .unset, .unset, .unset, .unset, .unset]) at_7 rfl rfl rfl ?_
  refine W.iload C at_9 rfl rfl ?_
  refine W.iconst C (x := (1 : Int32)) at_11 rfl rfl ?_
  refine W.iand C (z := (p3 &&& (1 : Int32))) at_12 rfl rfl ?_
  refine W.ifc C (pc' := 22) (pn := 16) at_13 (by decide) rfl rfl (W.q_eq (p3 &&& (1 : Int32)) (0 : Int32)) (fun hc13 => ?_) (fun hc13 => ?_)
  · exact W.Go.mono (J22 b6 g0_b6 h7 (0 : Int64) w7 t7 ⟨O7.1, O7.2.1, O7.2.2.1, O7.2.2.2.1, O7.2.2.2.2⟩) (by decide) (by decide)
  · refine W.aload C at_16 rfl rfl rfl ?_
    refine W.lloadN C at_18 rfl rfl ?_
    refine W.callV C (y := (⟨"com/example/gage/gage/MessageIndex", "startAt", "(J)V"⟩ : MethodName)) (a := b6) (hw _ (List.mem_of_getElem? (i := 66) rfl)) (hw _ (List.mem_of_getElem? (i := 67) rfl)) (W.nf_sel C (hw _ (List.mem_of_getElem? (i := 69) rfl))) (hw _ (List.mem_of_getElem? (i := 69) rfl)) (hw _ (List.mem_of_getElem? (i := 68) rfl)) (hw _ (List.mem_of_getElem? (i := 2) rfl)) (hw _ (List.mem_of_getElem? (i := 70) rfl)) (by decide) O7.1 (fun hz => rm12 l Z a0 hw [] b6 q0 (0 : Int64) w7 t7 h7 n0 hz ⟨O7.1, O7.2.1, O7.2.2.1, O7.2.2.2.1, O7.2.2.2.2⟩ g0_b6) at_19 rfl rfl pd_6 rfl (argsL := [(.long q0)]) (rest := []) rfl (W := 0) rfl (by decide) (by decide) (by decide) (by decide) (k' := 9) (n' := 110) rfl rfl ?_
    rintro h8 _ ⟨rfl, w8, t8, O8⟩
    show W.Go p l e _ _ m _ below meth c _ _ _ _ _ _ (mkF m 22 #[.val (.long q0), .second, .val (.long q1), .second, .val (.long q2), .second, .val (.int p3), .val (.ref b6), .unset, .unset, .unset, .unset, .unset] [])
    exact W.Go.mono (J22 b6 g0_b6 h8 q0 w8 t8 ⟨O8.1, O8.2.1, O8.2.2.1, O8.2.2.2.1, O8.2.2.2.2⟩) (by decide) (by decide)
set_option maxRecDepth 65536 in
set_option maxHeartbeats 40000000 in
theorem comes_1 {Post : Tables → Env → Array Value → State → Outcome → State → Prop} (hpost : ∀ tb e args s v u, (limb_1_1.after args s (.returned v) u = true ∧ limb_1_2.after args s (.returned v) u = true ∧ True) → FrameEnd s (.returned v) u (Jvm.fieldLocs frame_1_writes args s ++ Jvm.arrayLocs frame_1_arrays args s ++ Jvm.staticLocs frame_1_statics s) 32 320 → Post tb e args s (.returned v) u) :
    ArmFor flags0 classFile x code maxLocals ret World_1 tables_1 room_1 Calls_1 rest_1 Pre_1 Post := by
  intro l hfl _ _ p e ha hc hk s m args below hf hA hF happ hP
  obtain ⟨hcalls, hrest, hpre⟩ := hP
  obtain ⟨-, -, -, hnamed, -, -, -, hat⟩ := (Spec.applies_iff hf).mp happ
  obtain ⟨hg, hn⟩ := and_e (Cond.before_iff.mp (show (Jvm.Cond.and given_1 narrow_1).before args s = true from hpre))
  obtain ⟨gv1, gv2⟩ := and_e hg
  obtain ⟨gv3, gv4⟩ := and_e gv2
  obtain ⟨gv5, gv6⟩ := and_e gv4
  obtain ⟨gv7, gv8⟩ := and_e gv6
  obtain ⟨w0, w1, w2, w3, rfl⟩ : ∃ w0 w1 w2 w3 : Value, args = #[w0, w1, w2, w3] := by
    have hs : args.size = 4 := by simpa [Cond.value, given_1] using gv1
    obtain ⟨L⟩ := args
    match L, hs with
    | [w0, w1, w2, w3], _ => exact ⟨w0, w1, w2, w3, rfl⟩
  have hw := fun d (hd : d ∈ tables_1) => atoms_spec (ws := Jvm.Cond.code x code maxLocals ret :: tables_1) hat d (List.mem_cons_of_mem _ hd)
  have hfit : Fit s := fun {y c} hc i hi => by
    obtain ⟨ha, rfl⟩ := Array.getElem?_eq_some_iff.mp hc
    have q := List.all_eq_true.mp ((Array.all_eq_true_iff_forall_mem.mp hF) _ (Array.getElem_mem ha)) i (List.mem_range.mpr hi)
    simpa [Array.getElem?_eq_getElem hi] using q
  obtain ⟨i0, ei0⟩ := isL_v gv3
  obtain rfl : w0 = (.long i0) := Option.some.inj ei0
  obtain ⟨i1, ei1⟩ := isL_v gv5
  obtain rfl : w1 = (.long i1) := Option.some.inj ei1
  obtain ⟨i2, ei2⟩ := isL_v gv7
  obtain rfl : w2 = (.long i2) := Option.some.inj ei2
  obtain ⟨i3, ei3⟩ := is_v gv8
  obtain rfl : w3 = (.int i3) := Option.some.inj ei3
  obtain ⟨n, o, h1, h2, h3, v, L, rfl, ⟨hGv, N⟩, hq⟩ := rm0 l s _ hw tables_1 i0 i1 i2 i3 s.heap s.heap.size (Nat.le_refl _)  p e ha hc hk s m _ below hf ((Spec.applies_iff_loose hf).mp happ).1 ⟨rfl, State.Warmed39.refl s, rfl⟩ trivial
  obtain rfl : v = some (.int 1) := hGv
  refine ⟨n, _, h1, h2, h3, hpost _ _ _ _ _ _ ⟨Cond.after_iff.mpr rfl, Cond.after_iff.mpr (eq_i res_at (Term.int_eval (1)) rfl), trivial⟩ ⟨hq.1, hq.2.1, (hq.2.2.sift fun y hy => Or.inr (N y hy)).mono (by decide) (by decide)⟩⟩
theorem main_1_1 : Claimed_1_1 := comes_1 fun _ _ _ _ _ _ h hF => ⟨h.1, hF⟩
theorem main_1_2 : Claimed_1_2 := comes_1 fun _ _ _ _ _ _ h hF => ⟨h.2.1, hF⟩
end Jvm.Pilot.@@N@@
namespace Jvm.Pilot.@@N@@
open Jvm Jvm.ClassFile Sem Op Lib Jvm.Free Jvm.Stand Jvm.Pilot.@@N@@.Jvm.D
/-! MADE BY PROGRAM (witnessworld.py) out of the Statement's table words and the real class files: 14 classes; the members and pool entries that the words name. The judged class is class 1, her method 1. -/
namespace start1
open Jvm.ClassFile
def u (s : String) : CpInfo := .utf8 (stringToUtf16 s)
/-- a pool by its gaps: so many unusable entries, then the entry; so many at the end -/
def gap : Nat → List CpInfo → List CpInfo
  | 0, r => r
  | n + 1, r => .unusable :: gap n r
def poolList (es : List (Nat × CpInfo)) (last : Nat) : List CpInfo := es.foldr (fun e r => gap e.1 (e.2 :: r)) (gap last [])
def pool (es : List (Nat × CpInfo)) (last : Nat) : Array CpInfo := ⟨poolList es last⟩
def fileOf (pool : Array CpInfo) (this : Nat) (attrs : Array Attribute := #[]) (ms : Array MethodInfo := #[]) (fl : Nat := 33) (sup : Nat := 0) (ifs : Array Nat := #[]) (fds : Array FieldInfo := #[]) : ClassFile where
  minorVersion := 0
  majorVersion := 65
  constantPool := pool
  accessFlags := fl
  thisClass := this
  superClass := sup
  interfaces := ifs
  fields := fds
  methods := ms
  attributes := attrs
def plain (name : String) (sup : Option ClassId) : Class where
  name := name
  kind := .ordinary
  loader := none
  accessFlags := 33
  super := sup
  interfaces := #[]
  cf := none
  fields := #[]
  methods := #[]
  instanceTypes := #[]
  staticTypes := #[]
  resolved := #[]
  callSites := []
  init := .initialized
  statics := none
  mirror := none

def pool0 : Array CpInfo := pool [(5, u "<init>"), (0, u "()V"), (1, .class_ 10), (1, u "java/lang/Object")] 113

def k0c0 : Code := { maxStack := 0, maxLocals := 1, code := object_method_1_code, exceptionTable := #[], attributes := #[] }
def k0m0 : Method := { name := "<init>", desc := "()V", sig := { parameters := [], returnType := none }, accessFlags := 1, code := some k0c0 }
/-- java/lang/Object -/
def k0 : Class := { plain "java/lang/Object" none with
  accessFlags := 33
  interfaces := #[]
  cf := some (fileOf pool0 8 #[] #[{ accessFlags := 1, nameIndex := 5, descriptorIndex := 6, attributes := #[] }] 33 0 #[] #[])
  fields := #[]
  methods := #[k0m0]
  instanceTypes := #[]
  staticTypes := #[]
  resolved := Array.replicate 124 none
  statics := none }

def pool1 : Array CpInfo := pool [(2, .class_ 4), (0, .nameAndType 5 6), (0, u "java/lang/Object"), (0, u "<init>"), (0, u "()V"), (0, .class_ 8), (0, u "com/example/gage/gage/MessageIndex"), (0, .methodref 7 3), (0, .methodref 7 11), (0, .nameAndType 12 13), (0, u "startAt"), (0, u "(J)V"), (0, .methodref 7 15), (0, .nameAndType 16 13), (0, u "release"), (0, .methodref 7 18), (0, .nameAndType 19 20), (0, u "first"), (0, u "()J"), (0, .methodref 7 22), (0, .nameAndType 23 24), (0, u "holds"), (0, u "(J)Z"), (0, .methodref 7 26), (0, .nameAndType 27 20), (0, u "end"), (0, .class_ 29), (0, u "com/example/gage/gage/MessageIndexHoldsPinLaw"), (2, u "law"), (0, u "(JJJI)Z")] 3

def k1m0 : Method := { name := "<init>", desc := "()V", sig := { parameters := [], returnType := none }, accessFlags := 1, code := none }
def k1c1 : Code := { maxStack := 4, maxLocals := 13, code := code, exceptionTable := #[], attributes := #[] }
def k1m1 : Method := { name := "law", desc := "(JJJI)Z", sig := { parameters := [.long, .long, .long, .int], returnType := some .boolean }, accessFlags := 9, code := some k1c1 }
/-- com/example/gage/gage/MessageIndexHoldsPinLaw -/
def k1 : Class := { plain "com/example/gage/gage/MessageIndexHoldsPinLaw" (some 0) with
  accessFlags := 49
  interfaces := #[]
  cf := some (fileOf pool1 28 #[] #[{ accessFlags := 1, nameIndex := 5, descriptorIndex := 6, attributes := #[] }, { accessFlags := 9, nameIndex := 32, descriptorIndex := 33, attributes := #[] }] 49 2 #[] #[])
  fields := #[]
  methods := #[k1m0, k1m1]
  instanceTypes := #[]
  staticTypes := #[]
  resolved := Array.replicate 37 none
  statics := none }

def pool2 : Array CpInfo := pool [(1, .methodref 2 3), (0, .class_ 4), (0, .nameAndType 5 6), (0, u "java/lang/Object"), (0, u "<init>"), (0, u "()V"), (0, .methodref 8 9), (0, .class_ 10), (0, .nameAndType 11 12), (0, u "com/example/gage/gage/MessageIndex$Entries"), (0, u "empty"), (0, u "(J)Lcom/example/gage/gage/MessageIndex$Entries;"), (0, .fieldref 14 15), (0, .class_ 16), (0, .nameAndType 17 18), (0, u "com/example/gage/gage/MessageIndex"), (0, u "entries"), (0, u "Lcom/example/gage/gage/MessageIndex$Entries;"), (0, .fieldref 14 20), (0, .nameAndType 21 22), (0, u "end"), (0, u "J"), (0, .fieldref 14 24), (0, .nameAndType 25 22), (0, u "first"), (9, .fieldref 14 36), (0, .nameAndType 37 22), (0, u "trimmedBelow"), (21, u "()J"), (6, .methodref 67 68), (0, .class_ 69), (0, .nameAndType 70 71), (0, u "java/lang/Math"), (0, u "min"), (0, u "(JJ)J"), (0, .methodref 67 73), (0, .nameAndType 74 71), (0, u "max"), (3, .class_ 79), (0, u "com/example/gage/gage/MessageIndex$View"), (8, u "(J)Z"), (0, u "INITIAL_CAPACITY"), (0, u "I"), (4, u "startAt"), (0, u "(J)V"), (3, u "release"), (1, u "holds")] 27

def k2c0 : Code := { maxStack := 3, maxLocals := 1, code := prog_19_method_1_code, exceptionTable := #[], attributes := #[] }
def k2m0 : Method := { name := "<init>", desc := "()V", sig := { parameters := [], returnType := none }, accessFlags := 0, code := some k2c0 }
def k2c1 : Code := { maxStack := 4, maxLocals := 3, code := prog_19_method_2_code, exceptionTable := #[], attributes := #[] }
def k2m1 : Method := { name := "startAt", desc := "(J)V", sig := { parameters := [.long], returnType := none }, accessFlags := 0, code := some k2c1 }
def k2c2 : Code := { maxStack := 7, maxLocals := 3, code := prog_19_method_4_code, exceptionTable := #[], attributes := #[] }
def k2m2 : Method := { name := "release", desc := "(J)V", sig := { parameters := [.long], returnType := none }, accessFlags := 0, code := some k2c2 }
def k2c3 : Code := { maxStack := 2, maxLocals := 1, code := prog_19_method_6_code, exceptionTable := #[], attributes := #[] }
def k2m3 : Method := { name := "first", desc := "()J", sig := { parameters := [], returnType := some .long }, accessFlags := 0, code := some k2c3 }
def k2c4 : Code := { maxStack := 2, maxLocals := 1, code := prog_19_method_7_code, exceptionTable := #[], attributes := #[] }
def k2m4 : Method := { name := "end", desc := "()J", sig := { parameters := [], returnType := some .long }, accessFlags := 0, code := some k2c4 }
def k2c5 : Code := { maxStack := 4, maxLocals := 3, code := prog_19_method_8_code, exceptionTable := #[], attributes := #[] }
def k2m5 : Method := { name := "holds", desc := "(J)Z", sig := { parameters := [.long], returnType := some .boolean }, accessFlags := 0, code := some k2c5 }
/-- com/example/gage/gage/MessageIndex -/
def k2 : Class := { plain "com/example/gage/gage/MessageIndex" (some 0) with
  accessFlags := 32
  interfaces := #[]
  cf := some (fileOf pool2 14 #[.nestMembers #[78, 8]] #[{ accessFlags := 0, nameIndex := 5, descriptorIndex := 6, attributes := #[] }, { accessFlags := 0, nameIndex := 95, descriptorIndex := 96, attributes := #[] }, { accessFlags := 0, nameIndex := 100, descriptorIndex := 96, attributes := #[] }, { accessFlags := 0, nameIndex := 25, descriptorIndex := 59, attributes := #[] }, { accessFlags := 0, nameIndex := 21, descriptorIndex := 59, attributes := #[] }, { accessFlags := 0, nameIndex := 102, descriptorIndex := 88, attributes := #[] }] 32 2 #[] #[{ accessFlags := 26, nameIndex := 89, descriptorIndex := 90, attributes := #[] }, { accessFlags := 66, nameIndex := 17, descriptorIndex := 18, attributes := #[] }, { accessFlags := 66, nameIndex := 25, descriptorIndex := 22, attributes := #[] }, { accessFlags := 66, nameIndex := 21, descriptorIndex := 22, attributes := #[] }, { accessFlags := 2, nameIndex := 37, descriptorIndex := 22, attributes := #[] }])
  fields := #[{ name := "INITIAL_CAPACITY", type := .int, accessFlags := 26, slot := 0, constantValue := 0 }, { name := "entries", type := (.object "com/example/gage/gage/MessageIndex$Entries"), accessFlags := 66, slot := 0, constantValue := 0 }, { name := "first", type := .long, accessFlags := 66, slot := 1, constantValue := 0 }, { name := "end", type := .long, accessFlags := 66, slot := 2, constantValue := 0 }, { name := "trimmedBelow", type := .long, accessFlags := 2, slot := 3, constantValue := 0 }]
  methods := #[k2m0, k2m1, k2m2, k2m3, k2m4, k2m5]
  instanceTypes := #[(.object "com/example/gage/gage/MessageIndex$Entries"), .long, .long, .long]
  staticTypes := #[.int]
  resolved := Array.replicate 130 none
  statics := none }

def pool3 : Array CpInfo := pool [(1, .methodref 2 3), (0, .class_ 4), (0, .nameAndType 5 6), (0, u "java/lang/Object"), (0, u "<init>"), (0, u "()V"), (0, .class_ 8), (0, u "java/lang/Record")] 13

def k3c0 : Code := { maxStack := 1, maxLocals := 1, code := jdk_30_method_1_code, exceptionTable := #[], attributes := #[] }
def k3m0 : Method := { name := "<init>", desc := "()V", sig := { parameters := [], returnType := none }, accessFlags := 4, code := some k3c0 }
/-- java/lang/Record -/
def k3 : Class := { plain "java/lang/Record" (some 0) with
  accessFlags := 1057
  interfaces := #[]
  cf := some (fileOf pool3 7 #[] #[{ accessFlags := 4, nameIndex := 5, descriptorIndex := 6, attributes := #[] }] 1057 2 #[] #[])
  fields := #[]
  methods := #[k3m0]
  instanceTypes := #[]
  staticTypes := #[]
  resolved := Array.replicate 22 none
  statics := none }

def pool4 : Array CpInfo := pool [(1, .class_ 2), (0, u "com/example/gage/gage/MessageIndex"), (0, .methodref 4 5), (0, .class_ 6), (0, .nameAndType 7 8), (0, u "java/lang/Record"), (0, u "<init>"), (0, u "()V"), (0, .fieldref 10 11), (0, .class_ 12), (0, .nameAndType 13 14), (0, u "com/example/gage/gage/MessageIndex$Entries"), (0, u "base"), (0, u "J"), (0, .fieldref 10 16), (0, .nameAndType 17 18), (0, u "bytesBefore"), (0, u "[J"), (0, .fieldref 10 20), (0, .nameAndType 21 18), (0, u "publishMillis"), (0, .fieldref 10 23), (0, .nameAndType 24 18), (0, u "offsets"), (0, .methodref 10 26), (0, .nameAndType 7 27), (0, u "(J[J[J[J)V"), (35, u "empty"), (0, u "(J)Lcom/example/gage/gage/MessageIndex$Entries;")] 33

def k4c0 : Code := { maxStack := 3, maxLocals := 6, code := prog_20_method_1_code, exceptionTable := #[], attributes := #[] }
def k4m0 : Method := { name := "<init>", desc := "(J[J[J[J)V", sig := { parameters := [.long, (.array .long), (.array .long), (.array .long)], returnType := none }, accessFlags := 2, code := some k4c0 }
def k4c1 : Code := { maxStack := 7, maxLocals := 2, code := prog_20_method_2_code, exceptionTable := #[], attributes := #[] }
def k4m1 : Method := { name := "empty", desc := "(J)Lcom/example/gage/gage/MessageIndex$Entries;", sig := { parameters := [.long], returnType := some (.object "com/example/gage/gage/MessageIndex$Entries") }, accessFlags := 8, code := some k4c1 }
/-- com/example/gage/gage/MessageIndex$Entries -/
def k4 : Class := { plain "com/example/gage/gage/MessageIndex$Entries" (some 3) with
  accessFlags := 48
  interfaces := #[]
  cf := some (fileOf pool4 10 #[.nestHost 1] #[{ accessFlags := 2, nameIndex := 7, descriptorIndex := 27, attributes := #[] }, { accessFlags := 8, nameIndex := 63, descriptorIndex := 64, attributes := #[] }] 48 4 #[] #[{ accessFlags := 18, nameIndex := 13, descriptorIndex := 14, attributes := #[] }, { accessFlags := 18, nameIndex := 17, descriptorIndex := 18, attributes := #[] }, { accessFlags := 18, nameIndex := 21, descriptorIndex := 18, attributes := #[] }, { accessFlags := 18, nameIndex := 24, descriptorIndex := 18, attributes := #[] }])
  fields := #[{ name := "base", type := .long, accessFlags := 18, slot := 0, constantValue := 0 }, { name := "bytesBefore", type := (.array .long), accessFlags := 18, slot := 1, constantValue := 0 }, { name := "publishMillis", type := (.array .long), accessFlags := 18, slot := 2, constantValue := 0 }, { name := "offsets", type := (.array .long), accessFlags := 18, slot := 3, constantValue := 0 }]
  methods := #[k4m0, k4m1]
  instanceTypes := #[.long, (.array .long), (.array .long), (.array .long)]
  staticTypes := #[]
  resolved := Array.replicate 98 none
  statics := none }

def pool5 : Array CpInfo := pool [(1, .class_ 2), (0, u "java/lang/Math"), (1, .class_ 6), (1, u "java/lang/Object"), (0, u "<init>"), (0, u "()V"), (89, .class_ 100), (1, u "java/lang/Math$RandomNumberGeneratorHolder"), (20, u "(JJ)J"), (50, u "negativeZeroFloatBits"), (0, u "J"), (2, u "negativeZeroDoubleBits"), (21, u "max"), (2, u "min"), (43, u "$assertionsDisabled"), (0, u "Z"), (91, u "twoToTheDoubleScaleDown"), (0, u "D"), (4, u "twoToTheDoubleScaleUp"), (9, u "E"), (3, u "PI"), (2, u "TAU"), (2, u "DEGREES_TO_RADIANS"), (0, u "RADIANS_TO_DEGREES")] 94

def k5m0 : Method := { name := "<init>", desc := "()V", sig := { parameters := [], returnType := none }, accessFlags := 2, code := none }
def k5c1 : Code := { maxStack := 4, maxLocals := 4, code := jdk_29_method_66_code, exceptionTable := #[], attributes := #[] }
def k5m1 : Method := { name := "max", desc := "(JJ)J", sig := { parameters := [.long, .long], returnType := some .long }, accessFlags := 9, code := some k5c1 }
def k5c2 : Code := { maxStack := 4, maxLocals := 4, code := jdk_29_method_70_code, exceptionTable := #[], attributes := #[] }
def k5m2 : Method := { name := "min", desc := "(JJ)J", sig := { parameters := [.long, .long], returnType := some .long }, accessFlags := 9, code := some k5c2 }
/-- java/lang/Math -/
def k5 : Class := { plain "java/lang/Math" (some 0) with
  accessFlags := 49
  interfaces := #[]
  cf := some (fileOf pool5 1 #[.nestMembers #[98]] #[{ accessFlags := 2, nameIndex := 7, descriptorIndex := 8, attributes := #[] }, { accessFlags := 9, nameIndex := 198, descriptorIndex := 121, attributes := #[] }, { accessFlags := 9, nameIndex := 201, descriptorIndex := 121, attributes := #[] }] 49 4 #[] #[{ accessFlags := 25, nameIndex := 354, descriptorIndex := 339, attributes := #[] }, { accessFlags := 25, nameIndex := 358, descriptorIndex := 339, attributes := #[] }, { accessFlags := 25, nameIndex := 361, descriptorIndex := 339, attributes := #[] }, { accessFlags := 26, nameIndex := 364, descriptorIndex := 339, attributes := #[] }, { accessFlags := 26, nameIndex := 365, descriptorIndex := 339, attributes := #[] }, { accessFlags := 26, nameIndex := 172, descriptorIndex := 173, attributes := #[] }, { accessFlags := 26, nameIndex := 176, descriptorIndex := 173, attributes := #[] }, { accessFlags := 8, nameIndex := 344, descriptorIndex := 339, attributes := #[] }, { accessFlags := 8, nameIndex := 338, descriptorIndex := 339, attributes := #[] }, { accessFlags := 4120, nameIndex := 245, descriptorIndex := 246, attributes := #[] }])
  fields := #[{ name := "E", type := .double, accessFlags := 25, slot := 0, constantValue := 0 }, { name := "PI", type := .double, accessFlags := 25, slot := 1, constantValue := 0 }, { name := "TAU", type := .double, accessFlags := 25, slot := 2, constantValue := 0 }, { name := "DEGREES_TO_RADIANS", type := .double, accessFlags := 26, slot := 3, constantValue := 0 }, { name := "RADIANS_TO_DEGREES", type := .double, accessFlags := 26, slot := 4, constantValue := 0 }, { name := "negativeZeroFloatBits", type := .long, accessFlags := 26, slot := 5, constantValue := 0 }, { name := "negativeZeroDoubleBits", type := .long, accessFlags := 26, slot := 6, constantValue := 0 }, { name := "twoToTheDoubleScaleUp", type := .double, accessFlags := 8, slot := 7, constantValue := 0 }, { name := "twoToTheDoubleScaleDown", type := .double, accessFlags := 8, slot := 8, constantValue := 0 }, { name := "$assertionsDisabled", type := .boolean, accessFlags := 4120, slot := 9, constantValue := 0 }]
  methods := #[k5m0, k5m1, k5m2]
  instanceTypes := #[]
  staticTypes := #[.double, .double, .double, .double, .double, .long, .long, .double, .double, .boolean]
  resolved := Array.replicate 460 none
  statics := none }

def pool6 : Array CpInfo := pool [(1, u "java/lang/Cloneable"), (0, .class_ 1), (0, u "java/lang/Object"), (0, .class_ 3)] 3

/-- java/lang/Cloneable -/
def k6 : Class := { plain "java/lang/Cloneable" (some 0) with
  accessFlags := 1537
  interfaces := #[]
  cf := some (fileOf pool6 2 #[] #[] 1537 4 #[] #[])
  fields := #[]
  methods := #[]
  instanceTypes := #[]
  staticTypes := #[]
  resolved := Array.replicate 8 none
  statics := none }

def pool7 : Array CpInfo := pool [(1, u "java/io/Serializable"), (0, .class_ 1), (0, u "java/lang/Object"), (0, .class_ 3)] 3

/-- java/io/Serializable -/
def k7 : Class := { plain "java/io/Serializable" (some 0) with
  accessFlags := 1537
  interfaces := #[]
  cf := some (fileOf pool7 2 #[] #[] 1537 4 #[] #[])
  fields := #[]
  methods := #[]
  instanceTypes := #[]
  staticTypes := #[]
  resolved := Array.replicate 8 none
  statics := none }

/-- the primitive byte -/
def k8 : Class := { plain "byte" none with kind := .primitive 'B', accessFlags := 0x411 }
/-- [B -/
def k9 : Class := { plain "[B" (some 0) with kind := .array 8 .byte, interfaces := #[6, 7], accessFlags := 1041 }

/-- the primitive int -/
def k10 : Class := { plain "int" none with kind := .primitive 'I', accessFlags := 0x411 }
/-- [I -/
def k11 : Class := { plain "[I" (some 0) with kind := .array 10 .int, interfaces := #[6, 7], accessFlags := 1041 }

/-- the primitive long -/
def k12 : Class := { plain "long" none with kind := .primitive 'J', accessFlags := 0x411 }
/-- [J -/
def k13 : Class := { plain "[J" (some 0) with kind := .array 12 .long, interfaces := #[6, 7], accessFlags := 1041 }

def heap : Heap := #[]
def classes : Array Class := #[k0, k1, k2, k3, k4, k5, k6, k7, k8, k9, k10, k11, k12, k13]
def interned : List (Array UInt16 × Addr) := []
def slotsUsed : Nat := 0
def theMethod : MethodId := ⟨1, 1⟩
def args0 : Array Value := #[.long 5, .long 6, .long 7, .int 7]
def aboutOver (below : List Frame) : State where
  vm := { classes := classes, interned := interned.toArray }
  heap := heap
  slotsUsed := slotsUsed
  threads := #[{ frames := .invoking theMethod args0 :: below }]
def below0 : List Frame := [.native { method := ⟨0, 0⟩, args := #[] }]
def about1 : State := aboutOver below0
def p0 : Program := .bare "" "" ""
def e0 : Env := launch0.env 0 0 0
theorem w_frames : about1.frames = Frame.invoking theMethod args0 :: below0 := rfl
set_option maxRecDepth 65536 in
theorem w_args : argsFit about1.vm theMethod args0 = true := by decide +kernel
set_option maxRecDepth 65536 in
theorem w_heap : heapFits about1 = true := by decide +kernel
set_option maxRecDepth 65536 in
theorem w_runnable : about1.curStatus? = some .runnable := by decide +kernel
set_option maxRecDepth 65536 in
theorem w_alone : about1.alone = true := by decide +kernel
set_option maxRecDepth 65536 in
theorem w_named : about1.methodNamed? x = some theMethod := by decide +kernel
set_option maxRecDepth 65536 in
theorem w_hears : about1.hears theMethod below0 = true := by decide +kernel
set_option maxRecDepth 65536 in
theorem w_ripe : about1.ripe theMethod args0 below0 = true := by decide +kernel
theorem w_running : about1.status = .running := rfl
set_option maxRecDepth 65536 in
theorem w_room : about1.hasRoom e0.platform room_1 = true :=
  launch0.hasRoom_least _ room_1 (by decide +kernel) (by decide +kernel) (by decide +kernel) (by decide +kernel) (by decide +kernel) (by decide +kernel)
theorem allAtoms_all (ts : List Jvm.Cond) (a : Array Jvm.Value) (st : Jvm.State) : (allAtoms ts).before a st = ts.all (fun c => c.before a st) := by
  induction ts with
  | nil => rfl
  | cons c t ih =>
    show (Jvm.Cond.and c (allAtoms t)).before a st = _
    rw [Jvm.Cond.before_and, ih, List.all_cons]
def words1 : List Jvm.Cond := Jvm.Cond.code x code maxLocals ret :: tables_1
/-- a 'code' word, met by the world's own term for the bytes: nothing is compared byte by byte -/
theorem code_word {y : MethodName} {bytes : ByteArray} {mx : Nat} {rt : Option FieldType} {a : Array Value} {s : State} {m : MethodId} {meth : Method} {c : Code} (h1 : s.methodNamed? y = some m) (h2 : s.vm.method? m = some meth) (h3 : meth.code = some c) (h4 : c.code = bytes)
    (h5 : (c.maxLocals == mx && c.exceptionTable.isEmpty && decide (c.maxStack ≤ mostOperands) && decide (meth.sig.returnType = rt) && !meth.locks && decide (parseMethodDescriptor y.desc = some meth.sig)) = true) : (Jvm.Cond.code y bytes mx rt).before a s = true := by
  simp only [Bool.and_eq_true, beq_iff_eq, Bool.not_eq_true', decide_eq_true_eq] at h5
  obtain ⟨⟨⟨⟨⟨g1, g2⟩, g3⟩, g4⟩, g5⟩, g6⟩ := h5
  simp [Cond.before, Cond.holds, Cond.value, h1, h2, h3, h4, g1, g2, g3, g4, g5, g6]
def isCode : Jvm.Cond → Bool
  | .code _ _ _ _ => true
  | _ => false
theorem all_split {L : List Jvm.Cond} {P : Jvm.Cond → Bool} (h1 : L.all (fun c => isCode c || P c) = true) (h2 : ∀ c ∈ L.filter isCode, P c = true) : L.all P = true := by
  refine List.all_eq_true.mpr fun c hc => ?_
  have h := List.all_eq_true.mp h1 c hc
  rcases Bool.eq_false_or_eq_true (isCode c) with hi | hi
  · exact h2 c (List.mem_filter.mpr ⟨hc, hi⟩)
  · simpa [hi] using h
set_option maxRecDepth 65536 in
theorem w_c0 : (Jvm.Cond.code x code maxLocals ret).before args0 about1 = true := code_word (m := ⟨1, 1⟩) (meth := k1m1) (c := k1c1) (by decide +kernel) rfl rfl rfl (by decide +kernel)
set_option maxRecDepth 65536 in
theorem w_c1 : (Jvm.Cond.code ({ cls := "com/example/gage/gage/MessageIndex", name := "<init>", desc := "()V" } : Jvm.MethodName) prog_19_method_1_code (1 : Nat) (Option.none : Option Jvm.ClassFile.FieldType)).before args0 about1 = true := code_word (m := ⟨2, 0⟩) (meth := k2m0) (c := k2c0) (by decide +kernel) rfl rfl rfl (by decide +kernel)
set_option maxRecDepth 65536 in
theorem w_c2 : (Jvm.Cond.code ({ cls := "java/lang/Object", name := "<init>", desc := "()V" } : Jvm.MethodName) object_method_1_code (1 : Nat) (Option.none : Option Jvm.ClassFile.FieldType)).before args0 about1 = true := code_word (m := ⟨0, 0⟩) (meth := k0m0) (c := k0c0) (by decide +kernel) rfl rfl rfl (by decide +kernel)
set_option maxRecDepth 65536 in
theorem w_c3 : (Jvm.Cond.code ({ cls := "com/example/gage/gage/MessageIndex$Entries", name := "empty", desc := "(J)Lcom/example/gage/gage/MessageIndex$Entries;" } : Jvm.MethodName) prog_20_method_2_code (2 : Nat) (Option.some (Jvm.ClassFile.FieldType.object "com/example/gage/gage/MessageIndex$Entries"))).before args0 about1 = true := code_word (m := ⟨4, 1⟩) (meth := k4m1) (c := k4c1) (by decide +kernel) rfl rfl rfl (by decide +kernel)
set_option maxRecDepth 65536 in
theorem w_c4 : (Jvm.Cond.code ({ cls := "com/example/gage/gage/MessageIndex$Entries", name := "<init>", desc := "(J[J[J[J)V" } : Jvm.MethodName) prog_20_method_1_code (6 : Nat) (Option.none : Option Jvm.ClassFile.FieldType)).before args0 about1 = true := code_word (m := ⟨4, 0⟩) (meth := k4m0) (c := k4c0) (by decide +kernel) rfl rfl rfl (by decide +kernel)
set_option maxRecDepth 65536 in
theorem w_c5 : (Jvm.Cond.code ({ cls := "java/lang/Record", name := "<init>", desc := "()V" } : Jvm.MethodName) jdk_30_method_1_code (1 : Nat) (Option.none : Option Jvm.ClassFile.FieldType)).before args0 about1 = true := code_word (m := ⟨3, 0⟩) (meth := k3m0) (c := k3c0) (by decide +kernel) rfl rfl rfl (by decide +kernel)
set_option maxRecDepth 65536 in
theorem w_c6 : (Jvm.Cond.code ({ cls := "com/example/gage/gage/MessageIndex", name := "release", desc := "(J)V" } : Jvm.MethodName) prog_19_method_4_code (3 : Nat) (Option.none : Option Jvm.ClassFile.FieldType)).before args0 about1 = true := code_word (m := ⟨2, 2⟩) (meth := k2m2) (c := k2c2) (by decide +kernel) rfl rfl rfl (by decide +kernel)
set_option maxRecDepth 65536 in
theorem w_c7 : (Jvm.Cond.code ({ cls := "java/lang/Math", name := "min", desc := "(JJ)J" } : Jvm.MethodName) jdk_29_method_70_code (4 : Nat) (Option.some Jvm.ClassFile.FieldType.long)).before args0 about1 = true := code_word (m := ⟨5, 2⟩) (meth := k5m2) (c := k5c2) (by decide +kernel) rfl rfl rfl (by decide +kernel)
set_option maxRecDepth 65536 in
theorem w_c8 : (Jvm.Cond.code ({ cls := "java/lang/Math", name := "max", desc := "(JJ)J" } : Jvm.MethodName) jdk_29_method_66_code (4 : Nat) (Option.some Jvm.ClassFile.FieldType.long)).before args0 about1 = true := code_word (m := ⟨5, 1⟩) (meth := k5m1) (c := k5c1) (by decide +kernel) rfl rfl rfl (by decide +kernel)
set_option maxRecDepth 65536 in
theorem w_c9 : (Jvm.Cond.code ({ cls := "com/example/gage/gage/MessageIndex", name := "first", desc := "()J" } : Jvm.MethodName) prog_19_method_6_code (1 : Nat) (Option.some Jvm.ClassFile.FieldType.long)).before args0 about1 = true := code_word (m := ⟨2, 3⟩) (meth := k2m3) (c := k2c3) (by decide +kernel) rfl rfl rfl (by decide +kernel)
set_option maxRecDepth 65536 in
theorem w_c10 : (Jvm.Cond.code ({ cls := "com/example/gage/gage/MessageIndex", name := "holds", desc := "(J)Z" } : Jvm.MethodName) prog_19_method_8_code (3 : Nat) (Option.some Jvm.ClassFile.FieldType.boolean)).before args0 about1 = true := code_word (m := ⟨2, 5⟩) (meth := k2m5) (c := k2c5) (by decide +kernel) rfl rfl rfl (by decide +kernel)
set_option maxRecDepth 65536 in
theorem w_c11 : (Jvm.Cond.code ({ cls := "com/example/gage/gage/MessageIndex", name := "end", desc := "()J" } : Jvm.MethodName) prog_19_method_7_code (1 : Nat) (Option.some Jvm.ClassFile.FieldType.long)).before args0 about1 = true := code_word (m := ⟨2, 4⟩) (meth := k2m4) (c := k2c4) (by decide +kernel) rfl rfl rfl (by decide +kernel)
set_option maxRecDepth 65536 in
theorem w_c12 : (Jvm.Cond.code ({ cls := "com/example/gage/gage/MessageIndex", name := "startAt", desc := "(J)V" } : Jvm.MethodName) prog_19_method_2_code (3 : Nat) (Option.none : Option Jvm.ClassFile.FieldType)).before args0 about1 = true := code_word (m := ⟨2, 1⟩) (meth := k2m1) (c := k2c1) (by decide +kernel) rfl rfl rfl (by decide +kernel)
def codes1 : List Jvm.Cond := [Jvm.Cond.code x code maxLocals ret, Jvm.Cond.code ({ cls := "com/example/gage/gage/MessageIndex", name := "<init>", desc := "()V" } : Jvm.MethodName) prog_19_method_1_code (1 : Nat) (Option.none : Option Jvm.ClassFile.FieldType), Jvm.Cond.code ({ cls := "java/lang/Object", name := "<init>", desc := "()V" } : Jvm.MethodName) object_method_1_code (1 : Nat) (Option.none : Option Jvm.ClassFile.FieldType), Jvm.Cond.code ({ cls := "com/example/gage/gage/MessageIndex$Entries", name := "empty", desc := "(J)Lcom/example/gage/gage/MessageIndex$Entries;" } : Jvm.MethodName) prog_20_method_2_code (2 : Nat) (Option.some (Jvm.ClassFile.FieldType.object "com/example/gage/gage/MessageIndex$Entries")), Jvm.Cond.code ({ cls := "com/example/gage/gage/MessageIndex$Entries", name := "<init>", desc := "(J[J[J[J)V" } : Jvm.MethodName) prog_20_method_1_code (6 : Nat) (Option.none : Option Jvm.ClassFile.FieldType), Jvm.Cond.code ({ cls := "java/lang/Record", name := "<init>", desc := "()V" } : Jvm.MethodName) jdk_30_method_1_code (1 : Nat) (Option.none : Option Jvm.ClassFile.FieldType), Jvm.Cond.code ({ cls := "com/example/gage/gage/MessageIndex", name := "release", desc := "(J)V" } : Jvm.MethodName) prog_19_method_4_code (3 : Nat) (Option.none : Option Jvm.ClassFile.FieldType), Jvm.Cond.code ({ cls := "java/lang/Math", name := "min", desc := "(JJ)J" } : Jvm.MethodName) jdk_29_method_70_code (4 : Nat) (Option.some Jvm.ClassFile.FieldType.long), Jvm.Cond.code ({ cls := "java/lang/Math", name := "max", desc := "(JJ)J" } : Jvm.MethodName) jdk_29_method_66_code (4 : Nat) (Option.some Jvm.ClassFile.FieldType.long), Jvm.Cond.code ({ cls := "com/example/gage/gage/MessageIndex", name := "first", desc := "()J" } : Jvm.MethodName) prog_19_method_6_code (1 : Nat) (Option.some Jvm.ClassFile.FieldType.long), Jvm.Cond.code ({ cls := "com/example/gage/gage/MessageIndex", name := "holds", desc := "(J)Z" } : Jvm.MethodName) prog_19_method_8_code (3 : Nat) (Option.some Jvm.ClassFile.FieldType.boolean), Jvm.Cond.code ({ cls := "com/example/gage/gage/MessageIndex", name := "end", desc := "()J" } : Jvm.MethodName) prog_19_method_7_code (1 : Nat) (Option.some Jvm.ClassFile.FieldType.long), Jvm.Cond.code ({ cls := "com/example/gage/gage/MessageIndex", name := "startAt", desc := "(J)V" } : Jvm.MethodName) prog_19_method_2_code (3 : Nat) (Option.none : Option Jvm.ClassFile.FieldType)]
set_option maxRecDepth 65536 in
theorem codes_eq : words1.filter isCode = codes1 := rfl
theorem w_codes : ∀ c ∈ words1.filter isCode, c.before args0 about1 = true := by
  rw [codes_eq]
  intro c hc
  simp only [codes1, List.mem_cons, List.not_mem_nil, or_false] at hc
  rcases hc with rfl | rfl | rfl | rfl | rfl | rfl | rfl | rfl | rfl | rfl | rfl | rfl | rfl
  · exact w_c0
  · exact w_c1
  · exact w_c2
  · exact w_c3
  · exact w_c4
  · exact w_c5
  · exact w_c6
  · exact w_c7
  · exact w_c8
  · exact w_c9
  · exact w_c10
  · exact w_c11
  · exact w_c12
set_option maxRecDepth 65536 in
theorem w_t1 : (words1.take 24).all (fun c => isCode c || c.before args0 about1) = true := by decide +kernel
set_option maxRecDepth 65536 in
theorem w_t2 : ((words1.drop 24).take 24).all (fun c => isCode c || c.before args0 about1) = true := by decide +kernel
set_option maxRecDepth 65536 in
theorem w_t3 : (((words1.drop 24).drop 24).take 24).all (fun c => isCode c || c.before args0 about1) = true := by decide +kernel
set_option maxRecDepth 65536 in
theorem w_t4 : (((words1.drop 24).drop 24).drop 24).all (fun c => isCode c || c.before args0 about1) = true := by decide +kernel
theorem w_tables : (allAtoms (Jvm.Cond.code x code maxLocals ret :: tables_1)).before args0 about1 = true := by
  rw [allAtoms_all]
  show words1.all (fun c => c.before args0 about1) = true
  refine all_split ?_ w_codes
  rw [← List.take_append_drop 24 words1, List.all_append, w_t1, ← List.take_append_drop 24 (words1.drop 24), List.all_append, w_t2, ← List.take_append_drop 24 ((words1.drop 24).drop 24), List.all_append, w_t3, w_t4]
  rfl
set_option maxRecDepth 65536 in
theorem w_case : (Jvm.Cond.and given_1 narrow_1).before args0 about1 = true := by decide +kernel
theorem w_applies : (headSpec (Jvm.Cond.code x code maxLocals ret :: tables_1) room_1).applies x e0.platform about1 = true :=
  (Spec.applies_iff w_frames).mpr ⟨w_running, w_runnable, w_alone, w_named, w_hears, w_ripe, w_room, w_tables⟩
theorem atStart : AtStart classFile x code maxLocals ret World_1 tables_1 room_1 Calls_1 rest_1 Pre_1 launch0 p0 e0 about1 theMethod args0 below0 :=
  ⟨lists_1, trivial, launch0.admits_env _ _ _, launch0.least_env, fairChoices_fair.cas, fairChoices_fair.clock, w_frames, w_args, w_heap, w_applies, trivial, trivial, w_case⟩
end start1
theorem witness_1 : WitnessClaimed_1 := ⟨start1.p0, start1.e0, start1.about1, start1.theMethod, start1.args0, start1.below0, start1.atStart⟩
end Jvm.Pilot.@@N@@

import JvmDerived
import JvmDerived.Pilot.@@N@@Statement
import JvmDerived.Pilot.@@N@@Code
set_option linter.unusedVariables false
set_option linter.unusedSimpArgs false
namespace Jvm.Pilot.@@N@@
open Jvm Jvm.ClassFile Sem Op Lib Jvm.Free Jvm.Stand Jvm.LawKit Jvm.RoadKit Bundle Jvm.Pilot.@@N@@.Jvm.D
def Go (p : Program) (e : Env) (below : List Frame) (s : State) (Q : Option Value → Heap → List Loc → Prop) (C S : Nat) (V : State) : Prop :=
  ∃ (U : State) (o : Outcome), Steps p.tables e below V U ∧ U.status = .running ∧ Ended U below o ∧ ∃ v L, o = .returned v ∧ Q v U.heap L ∧ FrameEnd s o U L C S
def Ga (p : Program) (e : Env) (below : List Frame) (s : State) (Q : Option Value → Heap → List Loc → Prop) (C S : Nat) (T : State) (m : MethodId) (pc : Nat) (Ls : Array Slot) (st : List Value) : Prop :=
  Go p e below s Q C S (T.setTop (mkF m pc Ls st))
abbrev Ct (l : Launch) (Z : State) (y : MethodName) (bytes : ByteArray) (maxL : Nat) (ret : Option FieldType) (ws : List Jvm.Cond) (rm : Room) (as' : Array Value) (h0 : Heap) (Q : Option Value → Heap → List Loc → Prop) : Prop :=
  MetFree l y (head1 (Jvm.Cond.code y bytes maxL ret :: ws) rm) (fun a U => a = as' ∧ Z.Warmed39 U.vm ∧ U.heap = h0) (fun _ _ _ _ _ => True) (fun _ U o U' => ∃ v L, o = .returned v ∧ Q v U'.heap L ∧ FrameEnd U o U' L rm.cells rm.slots)
section GoKit
variable {p : Program} {l : Launch} {e : Env} {R : Room} {s : State} {m : MethodId} {args : Array Value} {below : List Frame} {meth : Method} {c : Code} {T T' : State} {locs : List Loc} {cells slots : Nat} {Q : Option Value → Heap → List Loc → Prop} {C S : Nat} {Z : State} {a0 : Array Value} {h : Heap} {pc q pc' : Nat} {Ls Ls' : Array Slot} {st st' : List Value} {own : String}
theorem Ga.stp (k : ∀ t, Steps p.tables e below (T'.setTop (mkF m pc' Ls' st')) t → Steps p.tables e below (T.setTop (mkF m pc Ls st)) t) (g : Ga p e below s Q C S T' m pc' Ls' st') : Ga p e below s Q C S T m pc Ls st := by
  obtain ⟨U, o, h, r⟩ := g
  exact ⟨U, o, k _ h, r⟩
theorem own_body {y : MethodName} {bytes : ByteArray} {maxL : Nat} {ret : Option FieldType} {ws : List Jvm.Cond} {rm : Room} {h0 : Heap} {as' : Array Value} (hpl : plainFor y = true) (hef : ∀ m, entryFrame m as' maxL = mkF m 0 Ls [])
    (body : ∀ (p : Program) (e : Env) (s : State) (m : MethodId) (below : List Frame) (meth : Method) (c : Code) (T : State), p.tables.exec = Jvm.exec → c.code = bytes → c.maxLocals = maxL → Z.Warmed39 s.vm → s.vm.findClass y.cls = some m.cls → meth.name = y.name → meth.sig.returnType = ret → meth.locks = false →
      Stand p l e rm s m as' below meth c T [] 0 0 → T.heap = h0 → Ga p e below s Q rm.cells rm.slots T m 0 Ls []) : Ct l Z y bytes maxL ret ws rm as' h0 Q := by
  refine MetFree.of_bodySF hpl hisR ?_
  intro p e s m args below meth c s₁ Bd hml0 hP hK
  obtain ⟨rfl, hZ, hh⟩ := hP
  have X0 : Stand p l e rm s m args below meth c s₁ [] 0 0 := Stand.of_body Bd
  have e0 : s₁.heap = h0 := by rw [← hh, Bd.state]; rfl
  obtain ⟨U, o, g1, g2⟩ := body p e s m below meth c s₁ Bd.exec Bd.bytes hml0 hZ (findClass_of_methodNamed Bd.named) (name_of_methodNamed Bd.named Bd.method).1 Bd.returns (BodyLoose.notSynchronized Bd) X0 e0
  exact ⟨U, o, castTop (hef m) g1, g2⟩
theorem Ga.out (X : Stand p l e R s m args below meth c T locs cells slots) {v : Option Value} (hlk : meth.locks = false) (hv : meth.sig.returnType = none → v = none) (hc : cells ≤ C) (hs : slots ≤ S) (hq : Q v T.heap locs)
    (k : ∀ fs, (∀ (f : JFrame) (acts : List Action), f.method = m → f.locked = none → f.entered = [] → (doReturn e (T.setTop f) acts v).1 = T.setFrames fs) → Steps p.tables e below (T.setTop (mkF m pc Ls st)) (T.setFrames fs)) : Ga p e below s Q C S T m pc Ls st := by
  obtain ⟨fs, hr, hrun, hended, hW, hsame⟩ := X.leave (v := v) hv hlk
  exact ⟨_, _, k fs hr, hrun, hended, _, _, rfl, hq, ⟨_, rfl⟩, hW, hsame.mono hc hs⟩
theorem g_iload (X : Stand p l e R s m args below meth c T locs cells slots) (hx : p.tables.exec = Jvm.exec) {k : Nat} {v : Int32} (hd : decode c.code pc = .ok (.iload k, 2)) (hp : pc + 2 = q) (hl : Ls[k]? = some (.val (.int v))) (g : Ga p e below s Q C S T m q Ls (.int v :: st)) : Ga p e below s Q C S T m pc Ls st := by
  subst hp
  exact Ga.stp (fun _ k => XS.iload X.here hx rfl hd hl k) g
theorem g_lloadN (X : Stand p l e R s m args below meth c T locs cells slots) (hx : p.tables.exec = Jvm.exec) {k : Fin 4} {v : Int64} (hd : decode c.code pc = .ok (.lload_n k, 1)) (hp : pc + 1 = q) (hl : Ls[k.val]? = some (.val (.long v))) (g : Ga p e below s Q C S T m q Ls (.long v :: st)) : Ga p e below s Q C S T m pc Ls st := by
  subst hp
  exact Ga.stp (fun _ k => XS.lloadN X.here hx rfl hd hl k) g
theorem g_lload (X : Stand p l e R s m args below meth c T locs cells slots) (hx : p.tables.exec = Jvm.exec) {k : Nat} {v : Int64} (hd : decode c.code pc = .ok (.lload k, 2)) (hp : pc + 2 = q) (hl : Ls[k]? = some (.val (.long v))) (g : Ga p e below s Q C S T m q Ls (.long v :: st)) : Ga p e below s Q C S T m pc Ls st := by
  subst hp
  exact Ga.stp (fun _ k => XS.lload X.here hx rfl hd hl k) g
theorem g_aloadN (X : Stand p l e R s m args below meth c T locs cells slots) (hx : p.tables.exec = Jvm.exec) {k : Fin 4} {v : Value} (hd : decode c.code pc = .ok (.aload_n k, 1)) (hp : pc + 1 = q) (hl : Ls[k.val]? = some (.val v)) (hv : v.isRef = true) (g : Ga p e below s Q C S T m q Ls (v :: st)) : Ga p e below s Q C S T m pc Ls st := by
  subst hp
  exact Ga.stp (fun _ k => XS.aloadN X.here hx rfl hd hl hv k) g
theorem g_istore (X : Stand p l e R s m args below meth c T locs cells slots) (hx : p.tables.exec = Jvm.exec) {k : Nat} {x : Int32} (hd : decode c.code pc = .ok (.istore k, 2)) (hp : pc + 2 = q) (hl : storeLocals Ls k (.int x) = some Ls') (g : Ga p e below s Q C S T m q Ls' st) : Ga p e below s Q C S T m pc Ls (.int x :: st) := by
  subst hp
  exact Ga.stp (fun _ k => XS.istore X.here hx rfl hd rfl hl k) g
theorem g_lstore (X : Stand p l e R s m args below meth c T locs cells slots) (hx : p.tables.exec = Jvm.exec) {k : Nat} {x : Int64} (hd : decode c.code pc = .ok (.lstore k, 2)) (hp : pc + 2 = q) (hl : storeLocals Ls k (.long x) = some Ls') (g : Ga p e below s Q C S T m q Ls' st) : Ga p e below s Q C S T m pc Ls (.long x :: st) := by
  subst hp
  exact Ga.stp (fun _ k => XS.lstore X.here hx rfl hd rfl hl k) g
theorem g_iconst (X : Stand p l e R s m args below meth c T locs cells slots) (hx : p.tables.exec = Jvm.exec) {i : Int} {r : Int32} (hd : decode c.code pc = .ok (.iconst i, 1)) (hp : pc + 1 = q) (hr : Int32.ofInt i = r) (g : Ga p e below s Q C S T m q Ls (.int r :: st)) : Ga p e below s Q C S T m pc Ls st := by
  subst hp hr
  exact Ga.stp (fun _ k => XS.iconst X.here hx rfl hd k) g
theorem g_lconst (X : Stand p l e R s m args below meth c T locs cells slots) (hx : p.tables.exec = Jvm.exec) {k : Fin 2} {r : Int64} (hd : decode c.code pc = .ok (.lconst k, 1)) (hp : pc + 1 = q) (hr : Int64.ofNat k = r) (g : Ga p e below s Q C S T m q Ls (.long r :: st)) : Ga p e below s Q C S T m pc Ls st := by
  subst hp hr
  exact Ga.stp (fun _ k => XS.lconst X.here hx rfl hd k) g
theorem g_ladd (X : Stand p l e R s m args below meth c T locs cells slots) (hx : p.tables.exec = Jvm.exec) {x y r : Int64} (hd : decode c.code pc = .ok (.ladd, 1)) (hp : pc + 1 = q) (hr : x + y = r) (g : Ga p e below s Q C S T m q Ls (.long r :: st)) : Ga p e below s Q C S T m pc Ls (.long y :: .long x :: st) := by
  subst hp hr
  exact Ga.stp (fun _ k => XS.ladd X.here hx rfl hd rfl k) g
theorem g_lmul (X : Stand p l e R s m args below meth c T locs cells slots) (hx : p.tables.exec = Jvm.exec) {x y r : Int64} (hd : decode c.code pc = .ok (.lmul, 1)) (hp : pc + 1 = q) (hr : x * y = r) (g : Ga p e below s Q C S T m q Ls (.long r :: st)) : Ga p e below s Q C S T m pc Ls (.long y :: .long x :: st) := by
  subst hp hr
  exact Ga.stp (fun _ k => XS.lmul X.here hx rfl hd rfl k) g
theorem g_land (X : Stand p l e R s m args below meth c T locs cells slots) (hx : p.tables.exec = Jvm.exec) {x y r : Int64} (hd : decode c.code pc = .ok (.land, 1)) (hp : pc + 1 = q) (hr : x &&& y = r) (g : Ga p e below s Q C S T m q Ls (.long r :: st)) : Ga p e below s Q C S T m pc Ls (.long y :: .long x :: st) := by
  subst hp hr
  exact Ga.stp (fun _ k => XS.land X.here hx rfl hd rfl k) g
theorem g_lrem (X : Stand p l e R s m args below meth c T locs cells slots) (hx : p.tables.exec = Jvm.exec) {x y r : Int64} (hd : decode c.code pc = .ok (.lrem, 1)) (hp : pc + 1 = q) (hy : y ≠ 0) (hr : x % y = r) (g : Ga p e below s Q C S T m q Ls (.long r :: st)) : Ga p e below s Q C S T m pc Ls (.long y :: .long x :: st) := by
  subst hp hr
  rw [← lrem_mod] at g
  exact Ga.stp (fun _ k => XS.lrem X.here hx rfl hd rfl hy k) g
theorem g_lcmp (X : Stand p l e R s m args below meth c T locs cells slots) (hx : p.tables.exec = Jvm.exec) {x y : Int64} (hd : decode c.code pc = .ok (.lcmp, 1)) (hp : pc + 1 = q)  (g : Ga p e below s Q C S T m q Ls (.int (XT.cmpL x y) :: st)) : Ga p e below s Q C S T m pc Ls (.long y :: .long x :: st) := by
  subst hp
  exact Ga.stp (fun _ k => XT.lcmp X.here hx rfl hd rfl k) g
theorem g_dup (X : Stand p l e R s m args below meth c T locs cells slots) (hx : p.tables.exec = Jvm.exec) {x : Value} (hd : decode c.code pc = .ok (.dup, 1)) (hp : pc + 1 = q) (hc : x.category = 1) (g : Ga p e below s Q C S T m q Ls (x :: x :: st)) : Ga p e below s Q C S T m pc Ls (x :: st) := by
  subst hp
  exact Ga.stp (fun _ k => XS.dup X.here hx rfl hd rfl hc k) g
theorem g_goto (X : Stand p l e R s m args below meth c T locs cells slots) (hx : p.tables.exec = Jvm.exec) {o : Int} (hd : decode c.code pc = .ok (.goto o, 3)) (ho : 0 ≤ (pc : Int) + o) (hp : ((pc : Int) + o).toNat = q) (g : Ga p e below s Q C S T m q Ls st) : Ga p e below s Q C S T m pc Ls st :=
  Ga.stp (fun _ k => XS.goto X.here hx rfl rfl hd ho hp k) g
theorem g_ifY (X : Stand p l e R s m args below meth c T locs cells slots) (hx : p.tables.exec = Jvm.exec) {cd : ClassFile.Cond} {x : Int32} {o : Int} (hd : decode c.code pc = .ok (.ifCond cd o, 3)) (hc : ifCond.holds cd x = true) (ho : 0 ≤ (pc : Int) + o) (hp : ((pc : Int) + o).toNat = q) (g : Ga p e below s Q C S T m q Ls st) : Ga p e below s Q C S T m pc Ls (.int x :: st) :=
  Ga.stp (fun _ k => XS.ifYes X.here hx rfl rfl hd rfl hc ho hp k) g
theorem g_ifN (X : Stand p l e R s m args below meth c T locs cells slots) (hx : p.tables.exec = Jvm.exec) {cd : ClassFile.Cond} {x : Int32} {o : Int} (hd : decode c.code pc = .ok (.ifCond cd o, 3)) (hp : pc + 3 = q) (hc : ifCond.holds cd x = false) (g : Ga p e below s Q C S T m q Ls st) : Ga p e below s Q C S T m pc Ls (.int x :: st) := by
  subst hp
  exact Ga.stp (fun _ k => XS.ifNo X.here hx rfl hd rfl hc k) g
theorem g_icmpN (X : Stand p l e R s m args below meth c T locs cells slots) (hx : p.tables.exec = Jvm.exec) {cd : ClassFile.Cond} {x y : Int32} {o : Int} (hd : decode c.code pc = .ok (.if_icmp cd o, 3)) (hp : pc + 3 = q) (hc : if_icmp.holds cd x y = false) (g : Ga p e below s Q C S T m q Ls st) : Ga p e below s Q C S T m pc Ls (.int y :: .int x :: st) := by
  subst hp
  exact Ga.stp (fun _ k => XS.icmpNo X.here hx rfl hd rfl hc k) g
theorem g_dload (X : Stand p l e R s m args below meth c T locs cells slots) (hx : p.tables.exec = Jvm.exec) {k : Nat} {v : UInt64} (hd : decode c.code pc = .ok (.dload k, 2)) (hp : pc + 2 = q) (hl : Ls[k]? = some (.val (.double v))) (g : Ga p e below s Q C S T m q Ls (.double v :: st)) : Ga p e below s Q C S T m pc Ls st := by
  subst hp
  exact Ga.stp (fun _ k => XS.dload X.here hx rfl hd hl k) g
theorem g_dstore (X : Stand p l e R s m args below meth c T locs cells slots) (hx : p.tables.exec = Jvm.exec) {k : Nat} {x : UInt64} (hd : decode c.code pc = .ok (.dstore k, 2)) (hp : pc + 2 = q) (hl : storeLocals Ls k (.double x) = some Ls') (g : Ga p e below s Q C S T m q Ls' st) : Ga p e below s Q C S T m pc Ls (.double x :: st) := by
  subst hp
  exact Ga.stp (fun _ k => XS.dstore X.here hx rfl hd rfl hl k) g
theorem g_dconst0 (X : Stand p l e R s m args below meth c T locs cells slots) (hx : p.tables.exec = Jvm.exec) (hd : decode c.code pc = .ok (.dconst 0, 1)) (hp : pc + 1 = q)  (g : Ga p e below s Q C S T m q Ls (.double FP.dconst0 :: st)) : Ga p e below s Q C S T m pc Ls st := by
  subst hp
  exact Ga.stp (fun _ k => XS.dconst0 X.here hx rfl hd rfl k) g
theorem g_dconst1 (X : Stand p l e R s m args below meth c T locs cells slots) (hx : p.tables.exec = Jvm.exec) (hd : decode c.code pc = .ok (.dconst 1, 1)) (hp : pc + 1 = q)  (g : Ga p e below s Q C S T m q Ls (.double FP.dconst1 :: st)) : Ga p e below s Q C S T m pc Ls st := by
  subst hp
  exact Ga.stp (fun _ k => XS.dconst1 X.here hx rfl hd rfl k) g
theorem g_l2d (X : Stand p l e R s m args below meth c T locs cells slots) (hx : p.tables.exec = Jvm.exec) {x : Int64} (hd : decode c.code pc = .ok (.l2d, 1)) (hp : pc + 1 = q)  (g : Ga p e below s Q C S T m q Ls (.double (FP.l2d x) :: st)) : Ga p e below s Q C S T m pc Ls (.long x :: st) := by
  subst hp
  exact Ga.stp (fun _ k => XS.l2dS X.here hx rfl hd rfl rfl k) g
theorem g_dadd (X : Stand p l e R s m args below meth c T locs cells slots) (hx : p.tables.exec = Jvm.exec) {x y : UInt64} (hd : decode c.code pc = .ok (.dadd, 1)) (hp : pc + 1 = q) (hn : Jvm.Free.Fl.NoNaN64 (FP.dadd x y)) (g : Ga p e below s Q C S T m q Ls (.double (FP.dadd x y) :: st)) : Ga p e below s Q C S T m pc Ls (.double y :: .double x :: st) := by
  subst hp
  exact Ga.stp (fun _ k => XS.daddS X.here hx rfl hd rfl hn rfl k) g
theorem g_ddiv (X : Stand p l e R s m args below meth c T locs cells slots) (hx : p.tables.exec = Jvm.exec) {x y : UInt64} (hd : decode c.code pc = .ok (.ddiv, 1)) (hp : pc + 1 = q) (hn : Jvm.Free.Fl.NoNaN64 (FP.ddiv x y)) (g : Ga p e below s Q C S T m q Ls (.double (FP.ddiv x y) :: st)) : Ga p e below s Q C S T m pc Ls (.double y :: .double x :: st) := by
  subst hp
  exact Ga.stp (fun _ k => XS.ddivS X.here hx rfl hd rfl hn rfl k) g
theorem g_dcmp (X : Stand p l e R s m args below meth c T locs cells slots) (hx : p.tables.exec = Jvm.exec) {o : CmpOp} {x y : UInt64} (hd : decode c.code pc = .ok (.dcmp o, 1)) (hp : pc + 1 = q)  (g : Ga p e below s Q C S T m q Ls (.int (cmpValue (FP.dcmp x y) o) :: st)) : Ga p e below s Q C S T m pc Ls (.double y :: .double x :: st) := by
  subst hp
  exact Ga.stp (fun _ k => XS.dcmpS X.here hx rfl hd rfl rfl k) g
theorem g_retN (X : Stand p l e R s m args below meth c T locs cells slots) (hx : p.tables.exec = Jvm.exec) {z r : Int32} {t : FieldType} (hret : meth.sig.returnType = some t) (ht : t = .boolean ∨ t = .byte ∨ t = .char ∨ t = .short) (hlk : meth.locks = false) (hd : decode c.code pc = .ok (.ireturn, 1)) (hr : nar t z = r) (hc : cells ≤ C) (hs : slots ≤ S) (hq : Q (some (.int r)) T.heap locs) : Ga p e below s Q C S T m pc Ls (.int z :: st) := by
  subst hr
  exact Ga.out X hlk (fun h => by rw [hret] at h; cases h) hc hs hq fun fs hr => retN X hx hret ht hd hr
theorem g_retJ (X : Stand p l e R s m args below meth c T locs cells slots) (hx : p.tables.exec = Jvm.exec) {z : Int64} (hret : meth.sig.returnType = some .long) (hlk : meth.locks = false) (hd : decode c.code pc = .ok (.lreturn, 1)) (hc : cells ≤ C) (hs : slots ≤ S) (hq : Q (some (.long z)) T.heap locs) : Ga p e below s Q C S T m pc Ls (.long z :: st) :=
  Ga.out X hlk (fun h => by rw [hret] at h; cases h) hc hs hq fun fs hr => retOut X hx hret rfl (Or.inr (Or.inl ⟨rfl, rfl, z, rfl⟩)) hd hr
theorem g_retD (X : Stand p l e R s m args below meth c T locs cells slots) (hx : p.tables.exec = Jvm.exec) {z : UInt64} (hret : meth.sig.returnType = some .double) (hlk : meth.locks = false) (hd : decode c.code pc = .ok (.dreturn, 1)) (hc : cells ≤ C) (hs : slots ≤ S) (hq : Q (some (.double z)) T.heap locs) : Ga p e below s Q C S T m pc Ls (.double z :: st) :=
  Ga.out X hlk (fun h => by rw [hret] at h; cases h) hc hs hq fun fs hr => retOut X hx hret rfl (Or.inr (Or.inr (Or.inl ⟨rfl, rfl, z, rfl⟩))) hd hr
theorem g_ret (X : Stand p l e R s m args below meth c T locs cells slots) (hx : p.tables.exec = Jvm.exec) (hret : meth.sig.returnType = none) (hlk : meth.locks = false) (hd : decode c.code pc = .ok (.return_, 1)) (hc : cells ≤ C) (hs : slots ≤ S) (hq : Q none T.heap locs) : Ga p e below s Q C S T m pc Ls [] :=
  Ga.out X hlk (fun _ => rfl) hc hs hq fun fs hr => X.returnOut hx hret hd hr
theorem g_ldc2 (X : Stand p l e R s m args below meth c T locs cells slots) (hx : p.tables.exec = Jvm.exec) (hZ : Z.Warmed39 s.vm) (hown : s.vm.findClass own = some m.cls) {index : Nat} {v : Int64} (w : (Cond.constantLong own index v).before a0 Z = true) (hd : decode c.code pc = .ok (.ldc2_w index, 3)) (hp : pc + 3 = q) (g : Ga p e below s Q C S T m q Ls (.long v :: st)) : Ga p e below s Q C S T m pc Ls st := by
  subst hp
  exact Ga.stp (fun t k => X.ldc2Long hx hown (mvT hZ w) (g := mkF m pc Ls st) rfl hd t k) g
theorem g_ldc2D (X : Stand p l e R s m args below meth c T locs cells slots) (hx : p.tables.exec = Jvm.exec) (hZ : Z.Warmed39 s.vm) (hown : s.vm.findClass own = some m.cls) {index : Nat} {v : UInt64} (w : (Cond.constantDouble own index v).before a0 Z = true) (hd : decode c.code pc = .ok (.ldc2_w index, 3)) (hp : pc + 3 = q) (g : Ga p e below s Q C S T m q Ls (.double v :: st)) : Ga p e below s Q C S T m pc Ls st := by
  subst hp
  exact Ga.stp (fun t k => X.ldc2DoubleC hx hown (mvT hZ w) (g := mkF m pc Ls st) rfl hd t k) g
theorem g_new (X : Stand p l e R s m args below meth c T locs cells slots) (hx : p.tables.exec = Jvm.exec) (hZ : Z.Warmed39 s.vm) (hown : s.vm.findClass own = some m.cls) {K : String} {index n : Nat} (w : (Cond.classLink own index K).before a0 Z = true) (wi : (Cond.instantiable K n).before a0 Z = true) (wz : (Cond.initialized K).before a0 Z = true) (eT : T.heap = h)
    (hd : decode c.code pc = .ok (.new index, 3)) (hp : pc + 3 = q) (hc : cells + 1 ≤ R.cells) (hl : slots + n ≤ R.slots)
    (k : ∀ T' h' b, Stand p l e R s m args below meth c T' locs (cells + 1) (slots + n) → T'.heap = h' → b = h.size → Ext h h' → Exa Z h' b K → (∀ {O nm d : String} {ty : FieldType}, Laid Z a0 K O nm d → parseFieldDescriptor d = some ty → Fld Z h' b O nm d (defaultValue ty)) → Ga p e below s Q C S T' m q Ls (.ref b :: st)) : Ga p e below s Q C S T m pc Ls st := by
  subst hp
  obtain ⟨T', h', X', e', E', A', D', -, sx⟩ := newO X hx hZ hown w wi wz eT (g := mkF m pc Ls st) rfl hd hc hl
  exact Ga.stp sx (k T' h' _ X' e' rfl E' A' D')
theorem g_getF (X : Stand p l e R s m args below meth c T locs cells slots) (hx : p.tables.exec = Jvm.exec) (hZ : Z.Warmed39 s.vm) (hown : s.vm.findClass own = some m.cls) {R0 O n d host : String} {index : Nat} (w : (Cond.fieldLink own index R0 n d).before a0 Z = true ∨ (Cond.fieldLinkNest own index R0 n d host).before a0 Z = true) (via : Via Z R0 O n d) (eT : T.heap = h) {a : Addr} {v : Value} (F : Fld Z h a O n d v)
    (hd : decode c.code pc = .ok (.getfield index, 3)) (hp : pc + 3 = q) (k : ∀ T', Stand p l e R s m args below meth c T' locs cells slots → T'.heap = h → Ga p e below s Q C S T' m q Ls (v :: st)) : Ga p e below s Q C S T m pc Ls (.ref a :: st) := by
  subst hp
  obtain ⟨T', X', e', sx⟩ := getF X hx hZ hown w via eT F (g := mkF m pc Ls (.ref a :: st)) rfl rfl hd
  exact Ga.stp sx (k T' X' e')
theorem g_putF (X : Stand p l e R s m args below meth c T locs cells slots) (hx : p.tables.exec = Jvm.exec) (hZ : Z.Warmed39 s.vm) (hown : s.vm.findClass own = some m.cls) {R0 O n d host K : String} {index kk : Nat} {ty : FieldType} (w : (Cond.fieldLink own index R0 n d).before a0 Z = true ∨ (Cond.fieldLinkNest own index R0 n d host).before a0 Z = true) (via : Via Z R0 O n d) (eT : T.heap = h) {a : Addr} {v old : Value} (F : Fld Z h a O n d old) (E : Exa Z h a K)
    (L : (Cond.lays K O n d).before a0 Z = true ∨ ((Cond.laysFinal K O n d).before a0 Z = true ∧ own = O ∧ meth.name = "<init>")) (wi : (Cond.instantiable K kk).before a0 Z = true) (hty : parseFieldDescriptor d = some ty) (hn : narrow ty v = v) (hf : fits ty v = true)
    (hd : decode c.code pc = .ok (.putfield index, 3)) (hp : pc + 3 = q) (k : ∀ T' h', Stand p l e R s m args below meth c T' (locs ++ [⟨a, Jvm.RoadKit.slotOf Z O n d⟩]) cells slots → T'.heap = h' → Wr h h' a (Jvm.RoadKit.slotOf Z O n d) v → Fld Z h' a O n d v → Ga p e below s Q C S T' m q Ls st) : Ga p e below s Q C S T m pc Ls (v :: .ref a :: st) := by
  subst hp
  obtain ⟨T', h', X', e', W', sx⟩ := putF X hx hZ hown w via eT F E L wi hty hn hf (g := mkF m pc Ls (v :: .ref a :: st)) rfl rfl hd
  exact Ga.stp sx (k T' h' X' e' W' (F.same W'))
theorem g_initO (X : Stand p l e R s m args below meth c T locs cells slots) (hx : p.tables.exec = Jvm.exec) (hZ : Z.Warmed39 s.vm) (hown : s.vm.findClass own = some m.cls) {idx : Nat} (w1 : (Cond.methodLink own idx Lib.objectInit).before a0 Z = true) (w2 : (Cond.instanceMethod Lib.objectInit).before a0 Z = true) (w3 : (Cond.code Lib.objectInit ⟨#[0xb1]⟩ 1 none).before a0 Z = true) (eT : T.heap = h) (hsz : Ls.size = c.maxLocals) {a : Addr}
    (hd : decode c.code pc = .ok (.invokespecial idx, 3)) (hp : pc + 3 = q) (hf : 1 ≤ R.frames) {W : Nat} (hW : (st.map fun v => v.category).sum ≤ W) (hl : W + 12 ≤ R.locals) (k : ∀ T', Stand p l e R s m args below meth c T' locs cells slots → T'.heap = h → Ga p e below s Q C S T' m q Ls st) : Ga p e below s Q C S T m pc Ls (.ref a :: st) := by
  subst hp
  obtain ⟨T', X', e', sx⟩ := initO X hx hZ hown w1 w2 w3 eT (g := mkF m pc Ls (.ref a :: st)) rfl hsz rfl hd hf (W := W) (by show 2 * 0 + _ ≤ _; omega) hl
  exact Ga.stp sx (k T' X' e')
theorem g_static (X : Stand p l e R s m args below meth c T locs cells slots) (hx : p.tables.exec = Jvm.exec) (hZ : Z.Warmed39 s.vm) (hown : s.vm.findClass own = some m.cls) {index : Nat} {y : MethodName} {ret : Option FieldType} {bytes : ByteArray} {maxL : Nat} {rm : Room} {as' : Array Value} {Q' : Option Value → Heap → List Loc → Prop} (w1 : (Cond.methodLink own index y).before a0 Z = true) (w2 : (Cond.static y).before a0 Z = true) (w3 : (Cond.initialized y.cls).before a0 Z = true) (w4 : (Cond.code y bytes maxL ret).before a0 Z = true) (hy : y.cls ≠ "java/lang/invoke/MethodHandle" ∧ y.cls ≠ "java/lang/invoke/VarHandle")
    (hM : Ct l Z y bytes maxL ret [] rm as' h Q') (hsz : Ls.size = c.maxLocals) (eT : T.heap = h) (argsL : List Value) {rest : List Value} (has : as' = argsL.toArray) (hst : st = argsL.reverse ++ rest) {W : Nat} (hW : (rest.map fun v => v.category).sum ≤ W) (hf : rm.frames + 1 ≤ R.frames) (hl : W + (maxL + 11) + rm.locals ≤ R.locals) (hcl : cells + rm.cells ≤ R.cells) (hsl : slots + rm.slots ≤ R.slots) (hlen : ∀ sig, parseMethodDescriptor y.desc = some sig → argsL.length = sig.parameters.length) (hd : decode c.code pc = .ok (.invokestatic index, 3)) (hp : pc + 3 = q) (k : ∀ v T' L, Stand p l e R s m args below meth c T' (locs ++ L) (cells + rm.cells) (slots + rm.slots) → Q' v T'.heap L → Ga p e below s Q C S T' m q Ls (v.toList ++ rest)) : Ga p e below s Q C S T m pc Ls st := by
  subst hp has hst
  obtain ⟨_, _, ⟨T', L', k', n'⟩, -, X', ⟨Lc, hQ', l1, y1, z1⟩, sx⟩ := Jvm.LawKit.callS X hx (y := y) hown (mvT hZ w1) (mvT hZ w2) (mvT hZ w3) (mvT hZ w4) hy (backOf (W := W) hM hZ w4 w3 hf hl) (g := mkF m pc Ls (argsL.reverse ++ rest)) rfl hsz (argsL := argsL) (rest := rest) hlen rfl (by show 2 * 0 + _ ≤ _; omega) hd (fun _ _ => ⟨rfl, eT, hcl, hsl⟩)
  dsimp only [Pt.U, Pt.locs, Pt.cells, Pt.slots] at X' l1 y1 z1 sx hQ'
  subst l1 y1 z1
  exact Ga.stp sx (k _ T' Lc X' hQ')
theorem g_special (X : Stand p l e R s m args below meth c T locs cells slots) (hx : p.tables.exec = Jvm.exec) (hZ : Z.Warmed39 s.vm) (hown : s.vm.findClass own = some m.cls) {index : Nat} {y : MethodName} {bytes : ByteArray} {maxL : Nat} {rm : Room} {as' : Array Value} {Q' : Option Value → Heap → List Loc → Prop} (hy1 : y.name = "<init>") (w1 : (Cond.methodLink own index y).before a0 Z = true) (w2 : (Cond.instanceMethod y).before a0 Z = true) (w3 : (Cond.initialized y.cls).before a0 Z = true) (w4 : (Cond.code y bytes maxL none).before a0 Z = true) (hy : y.cls ≠ "java/lang/invoke/MethodHandle" ∧ y.cls ≠ "java/lang/invoke/VarHandle") {a : Addr}
    (hM : Ct l Z y bytes maxL none [] rm as' h Q') (hsz : Ls.size = c.maxLocals) (eT : T.heap = h) (argsL : List Value) {rest : List Value} (has : as' = (.ref a :: argsL).toArray) (hst : st = argsL.reverse ++ .ref a :: rest) {W : Nat} (hW : (rest.map fun v => v.category).sum ≤ W) (hf : rm.frames + 1 ≤ R.frames) (hl : W + (maxL + 11) + rm.locals ≤ R.locals) (hcl : cells + rm.cells ≤ R.cells) (hsl : slots + rm.slots ≤ R.slots) (hlen : ∀ sig, parseMethodDescriptor y.desc = some sig → argsL.length = sig.parameters.length) (hd : decode c.code pc = .ok (.invokespecial index, 3)) (hp : pc + 3 = q) (k : ∀ v T' L, Stand p l e R s m args below meth c T' (locs ++ L) (cells + rm.cells) (slots + rm.slots) → Q' v T'.heap L → Ga p e below s Q C S T' m q Ls (v.toList ++ rest)) : Ga p e below s Q C S T m pc Ls st := by
  subst hp has hst
  obtain ⟨_, _, ⟨T', L', k', n'⟩, -, X', ⟨Lc, hQ', l1, y1, z1⟩, sx⟩ := X.specialBack hx (y := y) hy1 hown (mvT hZ w1) (mvT hZ w2) (mvT hZ w4) hy (backOf (W := W) hM hZ w4 w3 hf hl) (g := mkF m pc Ls (argsL.reverse ++ .ref a :: rest)) rfl hsz (Steps.refl _) (a := a) (argsL := argsL) (rest := rest) hlen rfl (by show 2 * 0 + _ ≤ _; omega) hd (fun _ _ => ⟨rfl, eT, hcl, hsl⟩)
  dsimp only [Pt.U, Pt.locs, Pt.cells, Pt.slots] at X' l1 y1 z1 sx hQ'
  subst l1 y1 z1
  exact Ga.stp (fun _ kk => sx.trans kk) (k _ T' Lc X' hQ')
theorem g_virtual (X : Stand p l e R s m args below meth c T locs cells slots) (hx : p.tables.exec = Jvm.exec) (hZ : Z.Warmed39 s.vm) (hown : s.vm.findClass own = some m.cls) {index : Nat} {y z : MethodName} {K : String} {ret : Option FieldType} {bytes : ByteArray} {maxL : Nat} {rm : Room} {as' : Array Value} {Q' : Option Value → Heap → List Loc → Prop} (w1 : (Cond.methodLink own index y).before a0 Z = true) (w2 : (Cond.declares y).before a0 Z = true) (nf : NotFace s y) (w3 : (Cond.selects K y z).before a0 Z = true) (w4 : (Cond.instanceMethod z).before a0 Z = true) (w5 : (Cond.initialized z.cls).before a0 Z = true) (w6 : (Cond.code z bytes maxL ret).before a0 Z = true) (hy : y.cls ≠ "java/lang/invoke/MethodHandle" ∧ y.cls ≠ "java/lang/invoke/VarHandle") {a : Addr} (E : Exa Z h a K)
    (hM : Ct l Z z bytes maxL ret [] rm as' h Q') (hsz : Ls.size = c.maxLocals) (eT : T.heap = h) (argsL : List Value) {rest : List Value} (has : as' = (.ref a :: argsL).toArray) (hst : st = argsL.reverse ++ .ref a :: rest) {W : Nat} (hW : (rest.map fun v => v.category).sum ≤ W) (hf : rm.frames + 1 ≤ R.frames) (hl : W + (maxL + 11) + rm.locals ≤ R.locals) (hcl : cells + rm.cells ≤ R.cells) (hsl : slots + rm.slots ≤ R.slots) (hlen : ∀ sig, parseMethodDescriptor y.desc = some sig → argsL.length = sig.parameters.length) (hd : decode c.code pc = .ok (.invokevirtual index, 3)) (hp : pc + 3 = q) (k : ∀ v T' L, Stand p l e R s m args below meth c T' (locs ++ L) (cells + rm.cells) (slots + rm.slots) → Q' v T'.heap L → Ga p e below s Q C S T' m q Ls (v.toList ++ rest)) : Ga p e below s Q C S T m pc Ls st := by
  subst hp has hst
  obtain ⟨cq, kq, qa, qb, qc⟩ := isOf hZ eT E
  obtain ⟨_, _, ⟨T', L', k', n'⟩, -, X', ⟨Lc, hQ', l1, y1, z1⟩, sx⟩ := X.virtualBack hx (y := y) (z := z) hown (mvT hZ w1) (mvT hZ w2) nf (mvT hZ w3) (mvT hZ w4) hy (backOf (W := W) hM hZ w6 w5 hf hl) qa qc (g := mkF m pc Ls (argsL.reverse ++ .ref a :: rest)) rfl hsz (Steps.refl _) (argsL := argsL) (rest := rest) hlen rfl (by show 2 * 0 + _ ≤ _; omega) hd (fun _ _ => ⟨rfl, eT, hcl, hsl⟩)
  dsimp only [Pt.U, Pt.locs, Pt.cells, Pt.slots] at X' l1 y1 z1 sx hQ'
  subst l1 y1 z1
  exact Ga.stp (fun _ kk => sx.trans kk) (k _ T' Lc X' hQ')
variable {ka : ClassId} {ty : FieldType} {z j : Int32} {vs : List Value} {dv : Value} {a : Addr}
theorem own_ne {b : Addr} (h1 : a < h.size) (h2 : b = h.size) : a ≠ b := Nat.ne_of_lt (h2 ▸ h1)
end GoKit

theorem own_irrI (x : Int32) : ¬ x < x := Int32.lt_irrefl
theorem own_irrJ (x : Int64) : ¬ x < x := Int64.lt_irrefl
theorem own_narc (x : Int32) : nar .char (x &&& (255 : Int32)) = (x &&& (255 : Int32)) := i2c_mask x
theorem own_nar (x : Int32) : nar .byte x = x.toInt8.toInt32 := rfl
theorem own_bb (x : Int32) : x.toInt8.toInt32.toInt8.toInt32 = x.toInt8.toInt32 := by simp
theorem own_nb {h : Heap} {b b' y : Addr} (hb : b' = b ∨ h.size ≤ b') (lt : y < h.size) (ne : y ≠ b) : y ≠ b' := hb.elim (fun q => q ▸ ne) (fun q => Nat.ne_of_lt (Nat.lt_of_lt_of_le lt q))
theorem own_ng {h : Heap} {b b' : Addr} {n0 : Nat} (hb : b' = b ∨ h.size ≤ b') (g : n0 ≤ b) (Z : n0 ≤ h.size) : n0 ≤ b' := hb.elim (fun q => q ▸ g) (fun q => Nat.le_trans Z q)
theorem own_insK {Z : State} {h h' : Heap} {a : Addr} {C : String} {ws : List Addr} (F : Ins Z h a C true) (K : Keep h h' ws) : Ins Z h' a C true := by
  obtain ⟨cell, cT, h1, h2, h3⟩ := F
  obtain ⟨c', q1, q2, q3, -⟩ := K.2.2 _ _ h1
  exact ⟨c', cT, q1, h2, by rw [q2, q3]; exact h3⟩
theorem d_prog_62_m_1_0 : decode prog_62_method_1_code 0 = .ok (.aload_n 0, 1) := by decide +kernel
theorem d_prog_62_m_1_1 : decode prog_62_method_1_code 1 = .ok (.invokespecial 1, 3) := by decide +kernel
theorem d_prog_62_m_1_4 : decode prog_62_method_1_code 4 = .ok (.lload_n 1, 1) := by decide +kernel
theorem d_prog_62_m_1_5 : decode prog_62_method_1_code 5 = .ok (.lconst 0, 1) := by decide +kernel
theorem d_prog_62_m_1_6 : decode prog_62_method_1_code 6 = .ok (.lcmp, 1) := by decide +kernel
theorem d_prog_62_m_1_7 : decode prog_62_method_1_code 7 = .ok (.ifCond .le 9, 3) := by decide +kernel
theorem d_prog_62_m_1_10 : decode prog_62_method_1_code 10 = .ok (.lload_n 3, 1) := by decide +kernel
theorem d_prog_62_m_1_11 : decode prog_62_method_1_code 11 = .ok (.lconst 0, 1) := by decide +kernel
theorem d_prog_62_m_1_12 : decode prog_62_method_1_code 12 = .ok (.lcmp, 1) := by decide +kernel
theorem d_prog_62_m_1_13 : decode prog_62_method_1_code 13 = .ok (.ifCond .gt 18, 3) := by decide +kernel
theorem d_prog_62_m_1_31 : decode prog_62_method_1_code 31 = .ok (.aload_n 0, 1) := by decide +kernel
theorem d_prog_62_m_1_32 : decode prog_62_method_1_code 32 = .ok (.lload_n 1, 1) := by decide +kernel
theorem d_prog_62_m_1_33 : decode prog_62_method_1_code 33 = .ok (.putfield 16, 3) := by decide +kernel
theorem d_prog_62_m_1_36 : decode prog_62_method_1_code 36 = .ok (.aload_n 0, 1) := by decide +kernel
theorem d_prog_62_m_1_37 : decode prog_62_method_1_code 37 = .ok (.lload_n 3, 1) := by decide +kernel
theorem d_prog_62_m_1_38 : decode prog_62_method_1_code 38 = .ok (.putfield 22, 3) := by decide +kernel
theorem d_prog_62_m_1_41 : decode prog_62_method_1_code 41 = .ok (.return_, 1) := by decide +kernel
theorem d_prog_62_m_7_0 : decode prog_62_method_7_code 0 = .ok (.aload_n 0, 1) := by decide +kernel
theorem d_prog_62_m_7_1 : decode prog_62_method_7_code 1 = .ok (.getfield 16, 3) := by decide +kernel
theorem d_prog_62_m_7_4 : decode prog_62_method_7_code 4 = .ok (.l2d, 1) := by decide +kernel
theorem d_prog_62_m_7_5 : decode prog_62_method_7_code 5 = .ok (.aload_n 0, 1) := by decide +kernel
theorem d_prog_62_m_7_6 : decode prog_62_method_7_code 6 = .ok (.getfield 22, 3) := by decide +kernel
theorem d_prog_62_m_7_9 : decode prog_62_method_7_code 9 = .ok (.l2d, 1) := by decide +kernel
theorem d_prog_62_m_7_10 : decode prog_62_method_7_code 10 = .ok (.ddiv, 1) := by decide +kernel
theorem d_prog_62_m_7_11 : decode prog_62_method_7_code 11 = .ok (.dreturn, 1) := by decide +kernel
theorem d_jdk_29_m_66_0 : decode jdk_29_method_66_code 0 = .ok (.lload_n 0, 1) := by decide +kernel
theorem d_jdk_29_m_66_1 : decode jdk_29_method_66_code 1 = .ok (.lload_n 2, 1) := by decide +kernel
theorem d_jdk_29_m_66_2 : decode jdk_29_method_66_code 2 = .ok (.lcmp, 1) := by decide +kernel
theorem d_jdk_29_m_66_3 : decode jdk_29_method_66_code 3 = .ok (.ifCond .lt 7, 3) := by decide +kernel
theorem d_jdk_29_m_66_10 : decode jdk_29_method_66_code 10 = .ok (.lload_n 2, 1) := by decide +kernel
theorem d_jdk_29_m_66_11 : decode jdk_29_method_66_code 11 = .ok (.lreturn, 1) := by decide +kernel
theorem d_jdk_29_m_66_6 : decode jdk_29_method_66_code 6 = .ok (.lload_n 0, 1) := by decide +kernel
theorem d_jdk_29_m_66_7 : decode jdk_29_method_66_code 7 = .ok (.goto 4, 3) := by decide +kernel
theorem d_jdk_29_m_70_0 : decode jdk_29_method_70_code 0 = .ok (.lload_n 0, 1) := by decide +kernel
theorem d_jdk_29_m_70_1 : decode jdk_29_method_70_code 1 = .ok (.lload_n 2, 1) := by decide +kernel
theorem d_jdk_29_m_70_2 : decode jdk_29_method_70_code 2 = .ok (.lcmp, 1) := by decide +kernel
theorem d_jdk_29_m_70_3 : decode jdk_29_method_70_code 3 = .ok (.ifCond .gt 7, 3) := by decide +kernel
theorem d_jdk_29_m_70_10 : decode jdk_29_method_70_code 10 = .ok (.lload_n 2, 1) := by decide +kernel
theorem d_jdk_29_m_70_11 : decode jdk_29_method_70_code 11 = .ok (.lreturn, 1) := by decide +kernel
theorem d_jdk_29_m_70_6 : decode jdk_29_method_70_code 6 = .ok (.lload_n 0, 1) := by decide +kernel
theorem d_jdk_29_m_70_7 : decode jdk_29_method_70_code 7 = .ok (.goto 4, 3) := by decide +kernel
theorem pd_0 : parseMethodDescriptor "(JJ)V" = some ⟨[.long, .long], none⟩ := by decide +kernel
theorem pd_1 : parseMethodDescriptor "()D" = some ⟨[], some .double⟩ := by decide +kernel
theorem pd_2 : parseMethodDescriptor "(JJ)J" = some ⟨[.long, .long], some .long⟩ := by decide +kernel
theorem pn_0 : plainName "com/example/ely/ely/probe/CpuQuota" = true := by first | (simp [plainName, overriddenIn]; done) | decide +kernel
theorem pn_1 : plainName "com/example/ely/ely/probe/CpuQuotaCpusPinLaw" = true := by first | (simp [plainName, overriddenIn]; done) | decide +kernel
theorem own_lt32 {x y : Int32} : x < y ↔ x.toInt < y.toInt := Int32.lt_iff_toInt_lt
theorem own_eq32 {x y : Int32} : x = y ↔ x.toInt = y.toInt := Int32.toInt_inj.symm
theorem own_i0 : (0 : Int32).toInt = 0 := rfl
theorem own_i1 : (1 : Int32).toInt = 1 := rfl
theorem own_nat {j z : Int32} (h0 : ¬ j < 0) (h : j < z) : j.toNatClampNeg < z.toNatClampNeg := by
  have a := nat_of h0
  have hz : ¬ z < 0 := by rw [own_lt32] at *; rw [own_i0] at *; omega
  have b := nat_of hz
  rw [own_lt32] at h; omega
theorem own_mx {x v : Int32} (h : (x &&& (2147483647 : Int32)) = v) : ¬ v < (0 : Int32) := by
  have e := c_mask x 2147483647 31 (by decide) (by decide)
  rw [h] at e; rw [own_lt32, own_i0]; omega
theorem own_mx1 {x v : Int32} (h : (x &&& (2147483647 : Int32)) = v) (h0 : ¬ v = 0) : ¬ v < (1 : Int32) := by
  have e := c_mask x 2147483647 31 (by decide) (by decide)
  rw [h] at e; rw [own_eq32, own_i0] at h0; rw [own_lt32, own_i1]; omega
theorem own_rem3 {x v : Int32} (h0 : ¬ x < (0 : Int32)) (h : (x % (3 : Int32)) = v) : v = (0 : Int32) ∨ v = (1 : Int32) ∨ v = (2 : Int32) := by
  have e := (c_irem x 3 3 rfl).1 (by rw [own_lt32, own_i0] at h0; omega)
  rw [h] at e
  have : v.toInt = 0 ∨ v.toInt = 1 ∨ v.toInt = 2 := by omega
  rcases this with q | q | q
  · left; exact Int32.toInt_inj.mp q
  · right; left; exact Int32.toInt_inj.mp q
  · right; right; exact Int32.toInt_inj.mp q
theorem own_ushr0 (x q : Int32) (k : Nat) (hk : q.toBitVec.toNat % 32 = k) (hk0 : 0 < k) : ¬ ((x.toUInt32 >>> (q &&& 31).toUInt32).toInt32) < (0 : Int32) := by
  have e := c_iushr x q k hk hk0
  rw [own_lt32, e, own_i0]
  have : 0 ≤ (x.toInt % 4294967296) / ((2 ^ k : Nat) : Int) := Int.ediv_nonneg (Int.emod_nonneg _ (by decide)) (Int.natCast_nonneg _)
  omega
theorem own_NaN {a : UInt64} (h : FP.Core.val64 a ≠ .nan) : Jvm.Free.Fl.NoNaN64 a := (Jvm.Free.Fl.noNaN64_iff a).mpr ((FP.Core.ne_nan a).mp h)
def own_gU (g U : Nat) : Prop := 2 ^ 1042 = g ∧ 2 ^ 1074 = U ∧ U = g * 4294967296 ∧ 0 < g ∧ 0 < U
theorem own_gUex : ∃ g U, own_gU g U := by
  obtain ⟨g, hg⟩ : ∃ g : Nat, 2 ^ 1042 = g := ⟨_, rfl⟩
  obtain ⟨U, hU⟩ : ∃ U : Nat, 2 ^ 1074 = U := ⟨_, rfl⟩
  have p1 := Nat.two_pow_pos 1042
  have p2 := Nat.two_pow_pos 1074
  have e : U = g * 4294967296 := by
    rw [← hg, ← hU, show (1074 : Nat) = 1042 + 32 from rfl, Nat.pow_add, show (2 : Nat) ^ 32 = 4294967296 by decide]
  rw [hg] at p1; rw [hU] at p2
  exact ⟨g, U, hg, hU, e, p1, p2⟩
def own_N (a : UInt64) (n : Nat) : Prop := FP.Core.val64 a ≠ .nan ∧ FP.Core.sgn (FP.Core.val64 a) = false ∧ FP.Core.zmag FP.Core.b64 (FP.Core.val64 a) = n
def own_F (a : UInt64) (n : Nat) : Prop := ∃ c q, FP.Core.val64 a = .fin false c q ∧ FP.Core.zmag FP.Core.b64 (.fin false c q) = n
theorem own_FN {a : UInt64} {n : Nat} (h : own_F a n) : own_N a n := by
  obtain ⟨c, q, e, z⟩ := h
  exact ⟨by rw [e]; nofun, by rw [e]; rfl, by rw [e]; exact z⟩
theorem own_zvalN {a : UInt64} {n : Nat} (h : own_N a n) : FP.Core.zval FP.Core.b64 (FP.Core.val64 a) = (n : Int) := by
  obtain ⟨-, h2, h3⟩ := h
  unfold FP.Core.zval
  rw [h2, h3]; rfl
theorem own_cmp {a b : UInt64} {m n : Nat} (ha : own_N a m) (hb : own_N b n) : FP.dcmp a b = some (compare (m : Int) (n : Int)) := by
  have h := FP.Core.order_zval FP.Core.good_b64 (FP.Core.val64_fits a) (FP.Core.val64_fits b) ha.1 hb.1
  rw [own_zvalN ha, own_zvalN hb] at h
  exact h
theorem own_cmpv {a b : UInt64} {m n : Nat} (ha : own_N a m) (hb : own_N b n) (o : CmpOp) : (m < n → cmpValue (FP.dcmp a b) o = (-1 : Int32)) ∧ (m = n → cmpValue (FP.dcmp a b) o = (0 : Int32)) ∧ (n < m → cmpValue (FP.dcmp a b) o = (1 : Int32)) := by
  rw [own_cmp ha hb]
  refine ⟨fun h => ?_, fun h => ?_, fun h => ?_⟩
  · have q : compare (m : Int) (n : Int) = .lt := by simp only [compare, compareOfLessAndEq]; rw [if_pos (by omega)]
    rw [q]; cases o <;> rfl
  · have q : compare (m : Int) (n : Int) = .eq := by simp only [compare, compareOfLessAndEq]; rw [if_neg (by omega), if_pos (by omega)]
    rw [q]; cases o <;> rfl
  · have q : compare (m : Int) (n : Int) = .gt := by simp only [compare, compareOfLessAndEq]; rw [if_neg (by omega), if_neg (by omega)]
    rw [q]; cases o <;> rfl
theorem own_cle {a b : UInt64} {m n : Nat} (ha : own_N a m) (hb : own_N b n) (o : CmpOp) (h : m ≤ n) : ¬ (0 : Int32) < cmpValue (FP.dcmp a b) o := by
  obtain ⟨h1, h2, -⟩ := own_cmpv ha hb o
  rcases Nat.lt_or_ge m n with q | q
  · rw [h1 q]; decide
  · rw [h2 (by omega)]; decide
theorem own_clt {a b : UInt64} {m n : Nat} (ha : own_N a m) (hb : own_N b n) (o : CmpOp) (h : m < n) : cmpValue (FP.dcmp a b) o < (0 : Int32) := by
  rw [(own_cmpv ha hb o).1 h]; decide
theorem own_cnlt {a b : UInt64} {m n : Nat} (ha : own_N a m) (hb : own_N b n) (o : CmpOp) (h : n ≤ m) : ¬ cmpValue (FP.dcmp a b) o < (0 : Int32) := by
  obtain ⟨-, h2, h3⟩ := own_cmpv ha hb o
  rcases Nat.lt_or_ge n m with q | q
  · rw [h3 q]; decide
  · rw [h2 (by omega)]; decide
theorem own_ceq {a b : UInt64} {m n : Nat} (ha : own_N a m) (hb : own_N b n) (o : CmpOp) (h : m = n) : cmpValue (FP.dcmp a b) o = (0 : Int32) := (own_cmpv ha hb o).2.1 h
theorem own_cne {a b : UInt64} {m n : Nat} (ha : own_N a m) (hb : own_N b n) (o : CmpOp) (h : m ≠ n) : ¬ cmpValue (FP.dcmp a b) o = (0 : Int32) := by
  obtain ⟨h1, -, h3⟩ := own_cmpv ha hb o
  rcases Nat.lt_or_ge m n with q | q
  · rw [h1 q]; decide
  · rw [h3 (by omega)]; decide
theorem own_cgt {a b : UInt64} {m n : Nat} (ha : own_N a m) (hb : own_N b n) (o : CmpOp) (h : n < m) : (0 : Int32) < cmpValue (FP.dcmp a b) o := by
  rw [(own_cmpv ha hb o).2.2 h]; decide
theorem own_ofInt {i : Int} {n : Nat} (h : i = (n : Int)) : FP.Core.ofInt i = .fin false n 0 := by
  subst h
  unfold FP.Core.ofInt
  have q : decide ((n : Int) < 0) = false := decide_eq_false (by omega)
  rw [q, Int.natAbs_natCast]
theorem own_l2dR {x : Int64} {n : Nat} (hx : x.toInt = (n : Int)) : FP.Core.val64 (FP.l2d x) = FP.Core.roundRatio FP.Core.b64 false n 1 0 := by
  rw [show FP.Core.val64 (FP.l2d x) = FP.Core.round FP.Core.b64 (FP.Core.ofInt x.toInt) from FP.Core.val64_l2d x, own_ofInt hx]; rfl
theorem own_1074 : ((0 : Int) - FP.Core.b64.qmin).toNat = 1074 := by decide
theorem own_l2d {g U : Nat} (hG : own_gU g U) {x : Int64} {n : Nat} (hx : x.toInt = (n : Int)) (h : n < 9007199254740992) : own_F (FP.l2d x) (n * U) := by
  obtain ⟨c', q', h1, h2⟩ := FP.Core.round_exact FP.Core.good_b64 false (c := n) (q := 0) (show n < 2 ^ 53 by rw [← pow_53]; exact h) (by decide) (by decide)
  have hv : FP.Core.val64 (FP.l2d x) = .fin false c' q' := by
    rw [show FP.Core.val64 (FP.l2d x) = FP.Core.round FP.Core.b64 (FP.Core.ofInt x.toInt) from FP.Core.val64_l2d x, own_ofInt hx, h1]
  refine ⟨c', q', hv, ?_⟩
  show FP.Core.inUnits c' q' FP.Core.b64.qmin = _
  rw [h2]
  show n * 2 ^ ((0 : Int) - FP.Core.b64.qmin).toNat = _
  rw [own_1074, hG.2.1]
theorem own_l2dF {x : Int64} {n : Nat} (hx : x.toInt = (n : Int)) : ∃ m, own_F (FP.l2d x) m := by
  obtain ⟨s, c, q, h⟩ := FP.Core.l2d_fin x
  have hs : s = false := by
    have e := FP.Core.sgn_roundRatio FP.Core.b64 false n 1 0
    rw [← own_l2dR hx, show FP.Core.val64 (FP.l2d x) = .fin s c q from h] at e
    exact e
  subst hs
  exact ⟨_, c, q, h, rfl⟩
theorem own_Fz {a : UInt64} {n : Nat} (h : own_F a n) : FP.Core.zmag FP.Core.b64 (FP.Core.val64 a) = n := (own_FN h).2.2
theorem own_l2dge {g U : Nat} (hG : own_gU g U) {x : Int64} {n m : Nat} (hx : x.toInt = (n : Int)) (h1 : 1 ≤ n) (hm : own_F (FP.l2d x) m) : U ≤ m := by
  have o := own_l2d hG (x := (1 : Int64)) (n := 1) rfl (by decide)
  have z := own_Fz o
  rw [Nat.one_mul] at z
  have g := FP.Core.zmag_roundRatio_ge FP.Core.good_b64 (s := false) (A := n) (B := 1) (e := 0) (e0 := FP.Core.b64.qmin) (V := FP.Core.val64 (FP.l2d (1 : Int64))) (by decide) (FP.Core.val64_fits _) (Int.le_refl _) (by decide) (by
    rw [z, Int.sub_self]
    show U * 2 ^ 0 * 1 ≤ n * 2 ^ ((0 : Int) - FP.Core.b64.qmin).toNat
    rw [own_1074, hG.2.1, Nat.pow_zero, Nat.mul_one, Nat.mul_one]
    exact Nat.le_mul_of_pos_left _ h1)
  rw [z, ← own_l2dR hx, own_Fz hm] at g
  exact g
theorem own_scale {A B A' B' : Nat} {e e' e0 : Int} (hU : A * 2 ^ (e - e0).toNat * B' = A' * 2 ^ (e' - e0).toNat * B) (h1 : e0 ≤ e) (h2 : e0 ≤ e') : A * B' * 2 ^ (e - e').toNat = A' * B * 2 ^ (e' - e).toNat := by
  rcases Int.le_total e e' with g | g
  · have k : (e' - e0).toNat = (e - e0).toNat + (e' - e).toNat := by omega
    have z : (e - e').toNat = 0 := by omega
    rw [z, Nat.pow_zero, Nat.mul_one]
    rw [k, Nat.pow_add] at hU
    have hp := Nat.two_pow_pos (e - e0).toNat
    apply Nat.eq_of_mul_eq_mul_right hp
    generalize 2 ^ (e - e0).toNat = u at *
    generalize 2 ^ (e' - e).toNat = v at *
    calc A * B' * u = A * u * B' := by ac_rfl
      _ = A' * (u * v) * B := hU
      _ = A' * B * v * u := by ac_rfl
  · have k : (e - e0).toNat = (e' - e0).toNat + (e - e').toNat := by omega
    have z : (e' - e).toNat = 0 := by omega
    rw [z, Nat.pow_zero, Nat.mul_one]
    rw [k, Nat.pow_add] at hU
    have hp := Nat.two_pow_pos (e' - e0).toNat
    apply Nat.eq_of_mul_eq_mul_right hp
    generalize 2 ^ (e' - e0).toNat = u at *
    generalize 2 ^ (e - e').toNat = v at *
    calc A * B' * v * u = A * (u * v) * B' := by ac_rfl
      _ = A' * u * B := hU
      _ = A' * B * u := by ac_rfl
theorem own_mono {A B A' B' c : Nat} {e e' e0 q : Int} (hB : 0 < B) (hB' : 0 < B') (hX : FP.Core.roundRatio FP.Core.b64 false A B e = .fin false c q) (h0 : e0 ≤ FP.Core.b64.qmin) (h1 : e0 ≤ e) (h2 : e0 ≤ e') (h : FP.Core.inUnits A e e0 * B' ≤ FP.Core.inUnits A' e' e0 * B) :
    FP.Core.zmag FP.Core.b64 (FP.Core.roundRatio FP.Core.b64 false A B e) ≤ FP.Core.zmag FP.Core.b64 (FP.Core.roundRatio FP.Core.b64 false A' B' e') := by
  rcases FP.Core.roundRatio_cases FP.Core.b64 false A' B' e' with ⟨c', q', hY⟩ | hY
  · refine Nat.le_of_not_lt fun hlt => ?_
    have fX := FP.Core.roundRatio_fits FP.Core.good_b64 false A hB e
    have fY := FP.Core.roundRatio_fits FP.Core.good_b64 false A' hB' e'
    rw [hX] at fX hlt
    rw [hY] at fY hlt
    have d1 := FP.Core.roundRatio_nearest FP.Core.good_b64 hB hX (c' := c') (q' := q') fY.1 fY.2.1 h0 h1
    have d2 := FP.Core.roundRatio_nearest FP.Core.good_b64 hB' hY (c' := c) (q' := q) fX.1 fX.2.1 h0 h2
    have uX := FP.Core.units_fin fX h0
    have uY := FP.Core.units_fin fY h0
    have hXY : FP.Core.inUnits c' q' e0 < FP.Core.inUnits c q e0 := by rw [uX, uY]; exact Nat.mul_lt_mul_of_pos_right hlt (Nat.two_pow_pos _)
    unfold FP.Core.distance at d1 d2
    clear uX uY
    have p5 : FP.Core.inUnits A e e0 * B' = FP.Core.inUnits A' e' e0 * B := by
      generalize FP.Core.inUnits c q e0 = x at *
      generalize FP.Core.inUnits c' q' e0 = y at *
      generalize FP.Core.inUnits A e e0 = a at *
      generalize FP.Core.inUnits A' e' e0 = a' at *
      have p1 : (x + y) * B ≤ 2 * a := by
        have g : y * B < x * B := Nat.mul_lt_mul_of_pos_right hXY hB
        rw [Nat.add_mul]
        rw [← Int.natCast_mul, ← Int.natCast_mul] at d1
        generalize x * B = xb at *
        generalize y * B = yb at *
        omega
      have p2 : 2 * a' ≤ (x + y) * B' := by
        have g : y * B' < x * B' := Nat.mul_lt_mul_of_pos_right hXY hB'
        rw [Nat.add_mul]
        rw [← Int.natCast_mul, ← Int.natCast_mul] at d2
        generalize x * B' = xb at *
        generalize y * B' = yb at *
        omega
      have p3 : (x + y) * B * B' ≤ 2 * a * B' := Nat.mul_le_mul_right _ p1
      have p4 : 2 * a' * B ≤ (x + y) * B' * B := Nat.mul_le_mul_right _ p2
      rw [Nat.mul_right_comm (x + y)] at p3
      have p6 := Nat.le_trans p4 p3
      rw [Nat.mul_assoc, Nat.mul_assoc] at p6
      omega
    have eq := FP.Core.roundRatio_congr (f := FP.Core.b64) (s := false) hB hB' (own_scale p5 h1 h2)
    rw [hX, hY] at eq
    rw [eq] at hlt
    exact Nat.lt_irrefl _ hlt
  · rw [hY]
    exact FP.Core.zmag_le_top FP.Core.good_b64 (FP.Core.roundRatio_fits FP.Core.good_b64 false A hB e)
theorem own_l2dle {x y : Int64} {n k m m' : Nat} (hx : x.toInt = (n : Int)) (hy : y.toInt = (k : Int)) (h : n ≤ k) (hm : own_F (FP.l2d x) m) (hm' : own_F (FP.l2d y) m') : m ≤ m' := by
  obtain ⟨c, q, e, z⟩ := hm
  rw [← own_Fz hm', own_l2dR hy]
  have e' := e
  rw [own_l2dR hx] at e'
  have g := own_mono (A' := k) (B' := 1) (e' := 0) (e0 := FP.Core.b64.qmin) (by decide) (by decide) e' (Int.le_refl _) (by decide) (by decide) (Nat.mul_le_mul_right _ (Nat.mul_le_mul_right _ h))
  rw [e', z] at g
  exact g
theorem own_divR {a b : UInt64} {c d n : Nat} {q r : Int} (e1 : FP.Core.val64 a = .fin false c q) (e2 : FP.Core.val64 b = .fin false d r) (z2 : FP.Core.zmag FP.Core.b64 (.fin false d r) = n) (hn : 0 < n) : FP.Core.val64 (FP.ddiv a b) = FP.Core.roundRatio FP.Core.b64 false c d (q - r) ∧ 0 < d := by
  have hd : d ≠ 0 := by
    rintro rfl
    rw [← z2] at hn
    simp [FP.Core.zmag, FP.Core.inUnits] at hn
  refine ⟨?_, Nat.pos_of_ne_zero hd⟩
  rw [show FP.Core.val64 (FP.ddiv a b) = FP.Core.quotient FP.Core.b64 (FP.Core.val64 a) (FP.Core.val64 b) from FP.Core.val64_ddiv a b, e1, e2]
  show (if d = 0 then (if c = 0 then FP.Core.Datum.nan else FP.Core.Datum.inf (false != false)) else FP.Core.roundRatio FP.Core.b64 (false != false) c d (q - r)) = _
  rw [if_neg hd]; rfl
theorem own_divU {g U : Nat} (hG : own_gU g U) {c : Nat} {q r : Int} {m : Nat} (z1 : FP.Core.zmag FP.Core.b64 (.fin false c q) = m) (hq : -1074 ≤ q) : FP.Core.inUnits c (q - r) (-r - 2148) = m * U := by
  have k1 : (q - r - (-r - 2148)).toNat = (q - FP.Core.b64.qmin).toNat + 1074 := by rw [FP.Core.qmin_b64]; omega
  unfold FP.Core.inUnits
  rw [k1, Nat.pow_add, ← Nat.mul_assoc, hG.2.1]
  have z1' : c * 2 ^ (q - FP.Core.b64.qmin).toNat = m := z1
  rw [z1']
theorem own_div {g U : Nat} (hG : own_gU g U) {a b : UInt64} {m n : Nat} (ha : own_F a m) (hb : own_F b n) (hn : 0 < n) : ∃ w, own_N (FP.ddiv a b) w ∧ (∀ V, FP.Core.fits FP.Core.b64 V → V ≠ .nan → m * U ≤ FP.Core.zmag FP.Core.b64 V * n → w ≤ FP.Core.zmag FP.Core.b64 V) ∧ (∀ V, FP.Core.fits FP.Core.b64 V → FP.Core.zmag FP.Core.b64 V * n ≤ m * U → FP.Core.zmag FP.Core.b64 V ≤ w) := by
  obtain ⟨c, q, e1, z1⟩ := ha
  obtain ⟨d, r, e2, z2⟩ := hb
  obtain ⟨hv, hd⟩ := own_divR e1 e2 z2 hn
  have f1 := FP.Core.val64_fits a
  have f2 := FP.Core.val64_fits b
  rw [e1] at f1; rw [e2] at f2
  have q1 := f1.2.1
  have q2 := f2.2.1
  rw [FP.Core.qmin_b64] at q1 q2
  have k2 : (FP.Core.b64.qmin - (-r - 2148)).toNat = (r - FP.Core.b64.qmin).toNat := by rw [FP.Core.qmin_b64]; omega
  have z2' : d * 2 ^ (r - FP.Core.b64.qmin).toNat = n := z2
  have hs : ∀ V, FP.Core.zmag FP.Core.b64 V * 2 ^ (FP.Core.b64.qmin - (-r - 2148)).toNat * d = FP.Core.zmag FP.Core.b64 V * n := by
    intro V
    rw [k2, Nat.mul_assoc, Nat.mul_comm _ d, z2']
  refine ⟨_, ⟨by rw [hv]; exact FP.Core.roundRatio_ne_nan _ _ _ _ _, by rw [hv]; exact FP.Core.sgn_roundRatio _ _ _ _ _, rfl⟩, ?_, ?_⟩
  · intro V hV hn' h
    rw [hv]
    refine FP.Core.zmag_roundRatio_le FP.Core.good_b64 (e0 := -r - 2148) hd hV hn' (by rw [FP.Core.qmin_b64]; omega) (by omega) ?_
    rw [own_divU hG z1 q1, hs]; exact h
  · intro V hV h
    rw [hv]
    refine FP.Core.zmag_roundRatio_ge FP.Core.good_b64 (e0 := -r - 2148) hd hV (by rw [FP.Core.qmin_b64]; omega) (by omega) ?_
    rw [own_divU hG z1 q1, hs]; exact h
theorem own_top {a : UInt64} {m : Nat} (h : own_F a m) : m < FP.Core.b64.tails * 2 ^ (FP.Core.b64.exps - 2) := by
  obtain ⟨c, q, e, z⟩ := h
  have f := FP.Core.val64_fits a
  rw [e] at f
  rw [← z]
  exact FP.Core.zmag_lt_top FP.Core.good_b64 f
theorem own_divpos {g U : Nat} (hG : own_gU g U) {a b : UInt64} {m n : Nat} (ha : own_F a m) (hb : own_F b n) (hm : U ≤ m) (hn : U ≤ n) : ∃ w, own_N (FP.ddiv a b) w ∧ 0 < w ∧ w ≤ m := by
  have hU := hG.2.2.2.2
  obtain ⟨w, h1, h2, h3⟩ := own_div hG ha hb (by omega)
  refine ⟨w, h1, ?_, ?_⟩
  · have g := h3 (.fin false 1 FP.Core.b64.qmin) ⟨by decide, by decide, by decide, Or.inl rfl⟩ (by
      have e : FP.Core.zmag FP.Core.b64 (.fin false 1 FP.Core.b64.qmin) = 1 := by
        show 1 * 2 ^ (FP.Core.b64.qmin - FP.Core.b64.qmin).toNat = 1
        rw [Int.sub_self]; rfl
      rw [e, Nat.one_mul]
      have t := own_top hb
      have u : FP.Core.b64.tails * 2 ^ (FP.Core.b64.exps - 2) ≤ U * U := by
        rw [← hG.2.1, ← Nat.pow_add]
        rw [FP.Core.tails_b64, show FP.Core.b64.exps - 2 = 2046 by decide, ← Nat.pow_add]
        exact Nat.pow_le_pow_right (by decide) (by decide)
      have v : U * U ≤ m * U := Nat.mul_le_mul_right _ hm
      omega)
    have e : FP.Core.zmag FP.Core.b64 (.fin false 1 FP.Core.b64.qmin) = 1 := by
      show 1 * 2 ^ (FP.Core.b64.qmin - FP.Core.b64.qmin).toNat = 1
      rw [Int.sub_self]; rfl
    rw [e] at g
    omega
  · have g := h2 (FP.Core.val64 a) (FP.Core.val64_fits a) (own_FN ha).1 (by rw [own_Fz ha]; exact Nat.mul_le_mul_left _ hn)
    rw [own_Fz ha] at g
    exact g
theorem own_divfin {g U : Nat} (hG : own_gU g U) {a b : UInt64} {m n c d : Nat} {q r : Int} (ha : own_F a m) (hb : own_F b n) (hm : U ≤ m) (hn : U ≤ n) (hv : FP.Core.val64 (FP.ddiv a b) = FP.Core.roundRatio FP.Core.b64 false c d (q - r)) : ∃ c' q', FP.Core.roundRatio FP.Core.b64 false c d (q - r) = .fin false c' q' := by
  rcases FP.Core.roundRatio_cases FP.Core.b64 false c d (q - r) with h | h
  · exact h
  · obtain ⟨w, h1, -, h3⟩ := own_divpos hG ha hb hm hn
    have z := h1.2.2
    rw [hv, h] at z
    have t := own_top ha
    have z' : FP.Core.b64.tails * 2 ^ (FP.Core.b64.exps - 2) = w := z
    omega
theorem own_dle1 {g U : Nat} (hG : own_gU g U) {a a' b : UInt64} {m m' n w w' : Nat} (ha : own_F a m) (ha' : own_F a' m') (hb : own_F b n) (hm : U ≤ m) (hn : U ≤ n) (h : m ≤ m') (hw : own_N (FP.ddiv a b) w) (hw' : own_N (FP.ddiv a' b) w') : w ≤ w' := by
  have hU := hG.2.2.2.2
  obtain ⟨c, q, e1, z1⟩ := ha
  obtain ⟨c', q', e1', z1'⟩ := ha'
  obtain ⟨d, r, e2, z2⟩ := hb
  obtain ⟨hv, hd⟩ := own_divR e1 e2 z2 (by omega)
  obtain ⟨hv', -⟩ := own_divR e1' e2 z2 (by omega)
  obtain ⟨x, y, hX⟩ := own_divfin hG ⟨c, q, e1, z1⟩ ⟨d, r, e2, z2⟩ hm hn hv
  have f1 := FP.Core.val64_fits a
  have f1' := FP.Core.val64_fits a'
  have f2 := FP.Core.val64_fits b
  rw [e1] at f1; rw [e1'] at f1'; rw [e2] at f2
  have q1 := f1.2.1
  have q1' := f1'.2.1
  have q2 := f2.2.1
  rw [FP.Core.qmin_b64] at q1 q1' q2
  have g := own_mono hd hd hX (A' := c') (e' := q' - r) (e0 := -r - 2148) (by rw [FP.Core.qmin_b64]; omega) (by omega) (by omega) (by rw [own_divU hG z1 q1, own_divU hG z1' q1']; exact Nat.mul_le_mul_right _ (Nat.mul_le_mul_right _ h))
  rw [← hv, ← hv', hw.2.2, hw'.2.2] at g
  exact g
theorem own_pow2 {c d d' X ρ ρ' : Nat} (h1 : ρ ≤ X) (h2 : ρ' ≤ X) (h : d' * 2 ^ ρ' ≤ d * 2 ^ ρ) : c * 2 ^ (X - ρ) * d' ≤ c * 2 ^ (X - ρ') * d := by
  have hp := Nat.mul_pos (Nat.two_pow_pos ρ) (Nat.two_pow_pos ρ')
  apply Nat.le_of_mul_le_mul_right _ hp
  have e1 : 2 ^ (X - ρ) * 2 ^ ρ = 2 ^ X := by rw [← Nat.pow_add]; congr 1; omega
  have e2 : 2 ^ (X - ρ') * 2 ^ ρ' = 2 ^ X := by rw [← Nat.pow_add]; congr 1; omega
  calc c * 2 ^ (X - ρ) * d' * (2 ^ ρ * 2 ^ ρ') = c * (2 ^ (X - ρ) * 2 ^ ρ) * (d' * 2 ^ ρ') := by ac_rfl
    _ = c * 2 ^ X * (d' * 2 ^ ρ') := by rw [e1]
    _ ≤ c * 2 ^ X * (d * 2 ^ ρ) := Nat.mul_le_mul_left _ h
    _ = c * (2 ^ (X - ρ') * 2 ^ ρ') * (d * 2 ^ ρ) := by rw [e2]
    _ = c * 2 ^ (X - ρ') * d * (2 ^ ρ * 2 ^ ρ') := by ac_rfl
theorem own_dle2 {g U : Nat} (hG : own_gU g U) {a b b' : UInt64} {m n n' w w' : Nat} (ha : own_F a m) (hb : own_F b n) (hb' : own_F b' n') (hm : U ≤ m) (hn : U ≤ n) (hn' : U ≤ n') (h : n' ≤ n) (hw : own_N (FP.ddiv a b) w) (hw' : own_N (FP.ddiv a b') w') : w ≤ w' := by
  have hU := hG.2.2.2.2
  obtain ⟨c, q, e1, z1⟩ := ha
  obtain ⟨d, r, e2, z2⟩ := hb
  obtain ⟨d', r', e2', z2'⟩ := hb'
  obtain ⟨hv, hd⟩ := own_divR e1 e2 z2 (by omega)
  obtain ⟨hv', hd'⟩ := own_divR e1 e2' z2' (by omega)
  obtain ⟨x, y, hX⟩ := own_divfin hG ⟨c, q, e1, z1⟩ ⟨d, r, e2, z2⟩ hm hn hv
  have f1 := FP.Core.val64_fits a
  have f2 := FP.Core.val64_fits b
  have f2' := FP.Core.val64_fits b'
  rw [e1] at f1; rw [e2'] at f2'; rw [e2] at f2
  have q1 := f1.2.1
  have q2 := f2.2.1
  have q2' := f2'.2.1
  have t2 := f2.2.2.1
  have t2' := f2'.2.2.1
  have eM : FP.Core.b64.qmax = 971 := by decide
  rw [FP.Core.qmin_b64] at q1 q2 q2'
  rw [eM] at t2 t2'
  have k : (q - r - (-4000)).toNat = (q + 5074).toNat - (r + 1074).toNat := by omega
  have k' : (q - r' - (-4000)).toNat = (q + 5074).toNat - (r' + 1074).toNat := by omega
  have y2 : d * 2 ^ (r - FP.Core.b64.qmin).toNat = n := z2
  have y2' : d' * 2 ^ (r' - FP.Core.b64.qmin).toNat = n' := z2'
  rw [FP.Core.qmin_b64, show r - (-1074) = r + 1074 by omega] at y2
  rw [FP.Core.qmin_b64, show r' - (-1074) = r' + 1074 by omega] at y2'
  have g := own_mono hd hd' hX (A' := c) (e' := q - r') (e0 := -4000) (by rw [FP.Core.qmin_b64]; omega) (by omega) (by omega) (by
    unfold FP.Core.inUnits
    rw [k, k']
    exact own_pow2 (by omega) (by omega) (by rw [y2, y2']; exact h))
  rw [← hv, ← hv', hw.2.2, hw'.2.2] at g
  exact g
theorem own_grid {g U : Nat} (hG : own_gU g U) {k : Nat} (h : k < 9007199254740992) : ∃ V, FP.Core.fits FP.Core.b64 V ∧ V ≠ .nan ∧ FP.Core.sgn V = false ∧ FP.Core.zmag FP.Core.b64 V = k * g := by
  obtain ⟨c', q', h1, h2⟩ := FP.Core.round_exact FP.Core.good_b64 false (c := k) (q := -32) (show k < 2 ^ 53 by rw [← pow_53]; exact h) (by decide) (by decide)
  refine ⟨.fin false c' q', ?_, nofun, rfl, ?_⟩
  · have f := FP.Core.round_fits FP.Core.good_b64 (.fin false k (-32))
    rw [h1] at f; exact f
  · show FP.Core.inUnits c' q' FP.Core.b64.qmin = _
    rw [h2]
    show k * 2 ^ ((-32 : Int) - FP.Core.b64.qmin).toNat = _
    rw [show ((-32 : Int) - FP.Core.b64.qmin).toNat = 1042 by decide, hG.1]
theorem own_cgrid {g U : Nat} (hG : own_gU g U) {a b : UInt64} {q p w : Nat} (ha : own_F a (q * U)) (hb : own_F b (p * U)) (hp : 0 < p) : ∃ w, own_N (FP.ddiv a b) w ∧ ∀ k, k < 9007199254740992 → (q * 4294967296 ≤ k * p → w ≤ k * g) ∧ (k * p ≤ q * 4294967296 → k * g ≤ w) := by
  obtain ⟨w, h1, h2, h3⟩ := own_div hG ha hb (Nat.mul_pos hp hG.2.2.2.2)
  refine ⟨w, h1, fun k hk => ?_⟩
  obtain ⟨V, v1, v2, v3, v4⟩ := own_grid hG hk
  have e1 : q * U * U = (q * 4294967296) * (g * U) := by rw [hG.2.2.1]; ac_rfl
  have e2 : k * g * (p * U) = (k * p) * (g * U) := by ac_rfl
  refine ⟨fun h => ?_, fun h => ?_⟩
  · rw [← v4]
    refine h2 V v1 v2 ?_
    rw [v4, e1, e2]
    exact Nat.mul_le_mul_right _ h
  · rw [← v4]
    refine h3 V v1 ?_
    rw [v4, e1, e2]
    exact Nat.mul_le_mul_right _ h
theorem own_add {g U : Nat} (hG : own_gU g U) {a b : UInt64} {k m n : Nat} (ha : own_F a m) (hb : own_F b n) (hk : k < 9007199254740992) (h : m + n = k * g) (hp : 0 < k) : own_N (FP.dadd a b) (k * g) := by
  obtain ⟨c, q, e1, z1⟩ := ha
  obtain ⟨d, r, e2, z2⟩ := hb
  have f1 := FP.Core.val64_fits a
  have f2 := FP.Core.val64_fits b
  rw [e1] at f1; rw [e2] at f2
  obtain ⟨sg, x, e, h1, h2, h3⟩ := FP.Core.sum_units f1 f2
  obtain ⟨V, v1, v2, v3, v4⟩ := own_grid hG hk
  have hv : FP.Core.val64 (FP.dadd a b) = FP.Core.round FP.Core.b64 (.fin sg x e) := by
    rw [show FP.Core.val64 (FP.dadd a b) = FP.Core.round FP.Core.b64 (FP.Core.exactSum (FP.Core.val64 a) (FP.Core.val64 b)) from FP.Core.val64_dadd a b, e1, e2, h1]
  have zV : FP.Core.zval FP.Core.b64 V = ((k * g : Nat) : Int) := by
    unfold FP.Core.zval; rw [v3, v4]; rfl
  have z1' : FP.Core.zval FP.Core.b64 (.fin false c q) = (m : Int) := by unfold FP.Core.zval; rw [z1]; rfl
  have z2' : FP.Core.zval FP.Core.b64 (.fin false d r) = (n : Int) := by unfold FP.Core.zval; rw [z2]; rfl
  have hs : FP.Core.signed sg (FP.Core.inUnits x e FP.Core.b64.qmin) = FP.Core.zval FP.Core.b64 V := by
    rw [h3, z1', z2', zV, ← h]; omega
  have hs2 : FP.Core.zval FP.Core.b64 V * ((2 ^ (FP.Core.b64.qmin - FP.Core.b64.qmin).toNat : Nat) : Int) = FP.Core.zval FP.Core.b64 V := by
    rw [Int.sub_self]; exact Int.mul_one _
  have l1 := FP.Core.zval_round_le FP.Core.good_b64 (s := sg) (c := x) (q := e) (e0 := FP.Core.b64.qmin) v1 v2 (Int.le_refl _) h2 (by rw [hs2, hs]; exact Int.le_refl _)
  have l2 := FP.Core.zval_round_ge FP.Core.good_b64 (s := sg) (c := x) (q := e) (e0 := FP.Core.b64.qmin) v1 v2 (Int.le_refl _) h2 (by rw [hs2, hs]; exact Int.le_refl _)
  have l3 : FP.Core.zval FP.Core.b64 (FP.Core.val64 (FP.dadd a b)) = ((k * g : Nat) : Int) := by rw [hv, ← zV]; omega
  have hkp : 0 < k * g := Nat.mul_pos hp hG.2.2.2.1
  have hne : FP.Core.val64 (FP.dadd a b) ≠ .nan := by
    intro hc
    rw [hc] at l3
    have : ((0 : Nat) : Int) = ((k * g : Nat) : Int) := l3
    omega
  unfold FP.Core.zval at l3
  cases hsg : FP.Core.sgn (FP.Core.val64 (FP.dadd a b)) with
  | false =>
    rw [hsg] at l3
    exact ⟨hne, hsg, by have l4 : ((FP.Core.zmag FP.Core.b64 (FP.Core.val64 (FP.dadd a b)) : Nat) : Int) = ((k * g : Nat) : Int) := l3; omega⟩
  | true =>
    rw [hsg] at l3
    have l4 : -((FP.Core.zmag FP.Core.b64 (FP.Core.val64 (FP.dadd a b)) : Nat) : Int) = ((k * g : Nat) : Int) := l3
    omega
theorem own_half {g U : Nat} (hG : own_gU g U) : own_F 4602678819172646912 (2147483648 * g) := by
  have e : FP.Core.val64 4602678819172646912 = .fin false (2 ^ 52) (-53) := by decide +kernel
  refine ⟨_, _, e, ?_⟩
  show 2 ^ 52 * 2 ^ ((-53 : Int) - FP.Core.b64.qmin).toNat = _
  rw [show ((-53 : Int) - FP.Core.b64.qmin).toNat = 1021 by decide, ← Nat.pow_add, show (2147483648 : Nat) = 2 ^ 31 by decide]
  rw [← hG.1, ← Nat.pow_add]
theorem own_one {g U : Nat} (hG : own_gU g U) : own_F FP.dconst1 U := by
  have e : FP.Core.val64 FP.dconst1 = .fin false (2 ^ 52) (-52) := FP.Core.val64_dconst1
  refine ⟨_, _, e, ?_⟩
  show 2 ^ 52 * 2 ^ ((-52 : Int) - FP.Core.b64.qmin).toNat = _
  rw [show ((-52 : Int) - FP.Core.b64.qmin).toNat = 1022 by decide, ← Nat.pow_add, ← hG.2.1]
theorem own_zero : own_F FP.dconst0 0 := by
  have e : FP.Core.val64 FP.dconst0 = .fin false 0 FP.Core.b64.qmin := FP.Core.val64_dconst0
  refine ⟨_, _, e, ?_⟩
  show 0 * 2 ^ _ = 0
  rw [Nat.zero_mul]
theorem own_416 {a p r q : Int64} (hp0 : 0 < p.toInt) (hp : p.toInt ≤ 2147483648) (ha0 : 0 ≤ a.toInt) (ha : a.toInt ≤ 1048575) (hr0 : 0 ≤ r.toInt) (hr : r.toInt < p.toInt) (hq : ((a * p) + r) = q) :
    q.toInt = a.toInt * p.toInt + r.toInt ∧ Jvm.Free.Fl.NoNaN64 (FP.ddiv (FP.l2d q) (FP.l2d p)) ∧ Jvm.Free.Fl.NoNaN64 (FP.dadd (FP.l2d a) 4602678819172646912) ∧ Jvm.Free.Fl.NoNaN64 (FP.dadd (FP.l2d a) FP.dconst1) ∧
    ¬ (0 : Int32) < cmpValue (FP.dcmp (FP.l2d a) (FP.ddiv (FP.l2d q) (FP.l2d p))) .g ∧ cmpValue (FP.dcmp (FP.ddiv (FP.l2d q) (FP.l2d p)) (FP.dadd (FP.l2d a) FP.dconst1)) .g < (0 : Int32) ∧
    (r.toInt = 0 → cmpValue (FP.dcmp (FP.ddiv (FP.l2d q) (FP.l2d p)) (FP.l2d a)) .l = (0 : Int32)) ∧ (r.toInt ≠ 0 → ¬ cmpValue (FP.dcmp (FP.ddiv (FP.l2d q) (FP.l2d p)) (FP.l2d a)) .l = (0 : Int32)) ∧
    (2 * r.toInt < p.toInt → cmpValue (FP.dcmp (FP.ddiv (FP.l2d q) (FP.l2d p)) (FP.dadd (FP.l2d a) 4602678819172646912)) .g < (0 : Int32)) ∧ (¬ 2 * r.toInt < p.toInt → ¬ cmpValue (FP.dcmp (FP.ddiv (FP.l2d q) (FP.l2d p)) (FP.dadd (FP.l2d a) 4602678819172646912)) .g < (0 : Int32)) ∧
    (2 * r.toInt = p.toInt → cmpValue (FP.dcmp (FP.ddiv (FP.l2d q) (FP.l2d p)) (FP.dadd (FP.l2d a) 4602678819172646912)) .l = (0 : Int32)) ∧ (¬ 2 * r.toInt = p.toInt → ¬ cmpValue (FP.dcmp (FP.ddiv (FP.l2d q) (FP.l2d p)) (FP.dadd (FP.l2d a) 4602678819172646912)) .l = (0 : Int32)) := by
  obtain ⟨g, U, hG⟩ := own_gUex
  obtain ⟨A, hA⟩ : ∃ A : Nat, a.toInt = (A : Int) := ⟨a.toInt.toNat, by omega⟩
  obtain ⟨P, hP⟩ : ∃ P : Nat, p.toInt = (P : Int) := ⟨p.toInt.toNat, by omega⟩
  obtain ⟨B, hB⟩ : ∃ B : Nat, r.toInt = (B : Int) := ⟨r.toInt.toNat, by omega⟩
  rw [hA] at ha ha0; rw [hP] at hp hp0 hr; rw [hB] at hr hr0
  have hAP : A * P ≤ 1048575 * 2147483648 := Nat.mul_le_mul (by omega) (by omega)
  have cm := c_lmul a p
  have ca := c_ladd (a * p) r
  have rm := rng64 (a * p)
  have ra := rng64 (a * p + r)
  rw [hA, hP, ← Int.natCast_mul] at cm
  rw [hB] at ca
  have m1 : (a * p).toInt = ((A * P : Nat) : Int) := by generalize A * P = X at *; omega
  rw [m1] at ca
  have m2 : (a * p + r).toInt = ((A * P + B : Nat) : Int) := by generalize A * P = X at *; omega
  have hQ : q.toInt = ((A * P + B : Nat) : Int) := by rw [← hq]; exact m2
  have fq := own_l2d hG hQ (by generalize A * P = X at *; omega)
  have fp := own_l2d hG hP (by omega)
  have fa := own_l2d hG hA (by omega)
  obtain ⟨w, hw, hk⟩ := own_cgrid hG (w := 0) fq fp (by omega)
  have ea : A * U = (A * 4294967296) * g := by rw [hG.2.2.1]; ac_rfl
  have na : own_N (FP.l2d a) ((A * 4294967296) * g) := ea ▸ own_FN fa
  have nh := own_add hG (k := A * 4294967296 + 2147483648) fa (own_half hG) (by omega) (by rw [ea, ← Nat.add_mul]) (by omega)
  have n1 := own_add hG (k := A * 4294967296 + 4294967296) fa (own_one hG) (by omega) (by
    have e1 : U = 4294967296 * g := by rw [hG.2.2.1]; ac_rfl
    rw [ea, e1, ← Nat.add_mul]) (by omega)
  have G := hG.2.2.2.1
  have key : ∀ j : Nat, (A * 4294967296 + j) * P = A * P * 4294967296 + j * P := fun j => by rw [Nat.add_mul]; congr 1; ac_rfl
  have lo0 := hk (A * 4294967296) (by omega)
  have lo1 := hk (A * 4294967296 + 1) (by omega)
  have hm := hk (A * 4294967296 + 2147483647) (by omega)
  have h0 := hk (A * 4294967296 + 2147483648) (by omega)
  have h1 := hk (A * 4294967296 + 2147483649) (by omega)
  have t1 := hk (A * 4294967296 + 4294967295) (by omega)
  have kz : A * 4294967296 * P = A * P * 4294967296 := by ac_rfl
  rw [kz] at lo0
  rw [key] at lo1 hm h0 h1 t1
  have gg : ∀ x y : Nat, x < y → x * g < y * g := fun x y h => Nat.mul_lt_mul_of_pos_right h G
  rw [hQ, hA, hP, hB]
  have hgl := gg (A * 4294967296) (A * 4294967296 + 1) (by omega)
  have hgm := gg (A * 4294967296 + 2147483647) (A * 4294967296 + 2147483648) (by omega)
  have hgh := gg (A * 4294967296 + 2147483648) (A * 4294967296 + 2147483649) (by omega)
  have hgt := gg (A * 4294967296 + 4294967295) (A * 4294967296 + 4294967296) (by omega)
  have g1 : ((A * P + B : Nat) : Int) = (A : Int) * (P : Int) + (B : Int) := by rw [Int.natCast_add, Int.natCast_mul]
  refine ⟨g1, ?_⟩
  clear g1
  generalize A * P = X at *
  refine ⟨own_NaN hw.1, own_NaN nh.1, own_NaN n1.1, own_cle na hw _ (lo0.2 (by omega)), own_clt hw n1 _ ?_, fun h => own_ceq hw na _ ?_, fun h => own_cne hw na _ ?_, fun h => own_clt hw nh _ ?_, fun h => own_cnlt hw nh _ (h0.2 (by omega)), fun h => own_ceq hw nh _ ?_, fun h => own_cne hw nh _ ?_⟩
  · have := t1.1 (by omega); omega
  · have := lo0.1 (by omega); have := lo0.2 (by omega); omega
  · have := lo1.2 (by omega); omega
  · have := hm.1 (by omega); omega
  · have := h0.1 (by omega); have := h0.2 (by omega); omega
  · rcases Int.lt_or_gt_of_ne h with g | g
    · have := hm.1 (by omega); omega
    · have := h1.2 (by omega); omega
theorem own_lt64 {x y : Int64} : x < y ↔ x.toInt < y.toInt := Int64.lt_iff_toInt_lt
theorem own_eq64 {x y : Int64} : x = y ↔ x.toInt = y.toInt := Int64.toInt_inj.symm
theorem own_j0 : (0 : Int64).toInt = 0 := rfl
theorem own_p416 {x v : Int64} (h : ((x &&& (2147483647 : Int64)) + (1 : Int64)) = v) : 0 < v.toInt ∧ v.toInt ≤ 2147483648 := by
  have m := c_maskL x 2147483647 31 (by decide) (by decide)
  have p : ((2 ^ 31 : Nat) : Int) = 2147483648 := rfl
  rw [p] at m
  have c := c_ladd (x &&& 2147483647) 1
  have r := rng64 (x &&& 2147483647)
  have r2 := rng64 ((x &&& 2147483647) + 1)
  rw [h] at c r2
  have e1 : (1 : Int64).toInt = 1 := rfl
  rw [e1, m] at c
  omega
theorem own_a416 {x v : Int64} (h : (x &&& (1048575 : Int64)) = v) : 0 ≤ v.toInt ∧ v.toInt ≤ 1048575 := by
  have m := c_maskL x 1048575 20 (by decide) (by decide)
  have p : ((2 ^ 20 : Nat) : Int) = 1048576 := rfl
  rw [p, h] at m
  omega
theorem own_r416 {x p v : Int64} (h : ((x &&& (9223372036854775807 : Int64)) % p) = v) (hp : 0 < p.toInt) : 0 ≤ v.toInt ∧ v.toInt < p.toInt := by
  have m := c_maskL x 9223372036854775807 63 (by decide) (by decide)
  have e : ((x &&& (9223372036854775807 : Int64)) % p).toInt = (x &&& (9223372036854775807 : Int64)).toInt % p.toInt := by
    rw [Int64.toInt_mod]
    exact Int.tmod_eq_emod_of_nonneg (by rw [m]; exact Int.emod_nonneg _ (by decide))
  rw [h] at e
  rw [e]
  exact ⟨Int.emod_nonneg _ (by omega), Int.emod_lt_of_pos _ hp⟩
theorem own_nz416 {p : Int64} (hp : 0 < p.toInt) : p ≠ (0 : Int64) := by
  intro q; rw [q, own_j0] at hp; omega
theorem own_pos416 {p : Int64} (hp : 0 < p.toInt) : (0 : Int64) < p := by rw [own_lt64, own_j0]; exact hp
theorem own_q416 {a p r q : Int64} (e : q.toInt = a.toInt * p.toInt + r.toInt) (hp : 0 < p.toInt) (ha : 0 ≤ a.toInt) (hr : 0 ≤ r.toInt) (h : ¬ a = (0 : Int64) ∨ ¬ r = (0 : Int64)) : (0 : Int64) < q := by
  rw [own_lt64, own_j0, e]
  rw [own_eq64, own_eq64, own_j0] at h
  have g := Int.mul_nonneg ha (Int.le_of_lt hp)
  by_cases z : a.toInt = 0
  · omega
  · have g2 := Int.mul_pos (show 0 < a.toInt by omega) hp
    omega
theorem own_2r {r p : Int64} (h0 : 0 ≤ r.toInt) (h1 : r.toInt < p.toInt) (hp : p.toInt ≤ 2147483648) : ((2 : Int64) * r).toInt = 2 * r.toInt := by
  have c := c_lmul 2 r
  have t := rng64 (2 * r)
  have e2 : (2 : Int64).toInt = 2 := rfl
  rw [e2] at c
  omega
theorem own_max1 {x v : Int64} (h : (if (1 : Int64) < x then x else (1 : Int64)) = v) : 1 ≤ v.toInt := by
  have e1 : (1 : Int64).toInt = 1 := rfl
  split at h
  · rename_i g; rw [own_lt64, e1] at g; rw [← h]; omega
  · rw [← h, e1]; decide
theorem own_min2 {x y v : Int64} (h : (if y < x then y else x) = v) (hx : 1 ≤ x.toInt) (hy : 1 ≤ y.toInt) : 1 ≤ v.toInt ∧ v.toInt ≤ x.toInt ∧ v.toInt ≤ y.toInt := by
  split at h
  · rename_i g; rw [own_lt64] at g; rw [← h]; omega
  · rename_i g; rw [own_lt64] at g; rw [← h]; omega
theorem own_max2 {x y v : Int64} (h : (if x < y then y else x) = v) (hx : 1 ≤ x.toInt) (hy : 1 ≤ y.toInt) : 1 ≤ v.toInt ∧ x.toInt ≤ v.toInt ∧ y.toInt ≤ v.toInt := by
  split at h
  · rename_i g; rw [own_lt64] at g; rw [← h]; omega
  · rename_i g; rw [own_lt64] at g; rw [← h]; omega
theorem own_natof {x : Int64} (h : 1 ≤ x.toInt) : ∃ n : Nat, x.toInt = (n : Int) ∧ 1 ≤ n := ⟨x.toInt.toNat, by omega, by omega⟩
theorem own_416x {a b c : Int64} (ha : 1 ≤ a.toInt) (hb : 1 ≤ b.toInt) (hc : 1 ≤ c.toInt) (hab : a.toInt ≤ b.toInt) : Jvm.Free.Fl.NoNaN64 (FP.ddiv (FP.l2d a) (FP.l2d c)) ∧ Jvm.Free.Fl.NoNaN64 (FP.ddiv (FP.l2d b) (FP.l2d c)) ∧ (0 : Int32) < cmpValue (FP.dcmp (FP.ddiv (FP.l2d a) (FP.l2d c)) FP.dconst0) .l ∧ ¬ (0 : Int32) < cmpValue (FP.dcmp (FP.ddiv (FP.l2d a) (FP.l2d c)) (FP.l2d a)) .g ∧ ¬ (0 : Int32) < cmpValue (FP.dcmp (FP.ddiv (FP.l2d a) (FP.l2d c)) (FP.ddiv (FP.l2d b) (FP.l2d c))) .g := by
  obtain ⟨g, U, hG⟩ := own_gUex
  obtain ⟨A, hA, A1⟩ := own_natof ha
  obtain ⟨B, hB, B1⟩ := own_natof hb
  obtain ⟨C, hC, C1⟩ := own_natof hc
  obtain ⟨m, fa⟩ := own_l2dF hA
  obtain ⟨m', fb⟩ := own_l2dF hB
  obtain ⟨n, fc⟩ := own_l2dF hC
  have ga := own_l2dge hG hA A1 fa
  have gb := own_l2dge hG hB B1 fb
  have gc := own_l2dge hG hC C1 fc
  have le := own_l2dle hA hB (by omega) fa fb
  obtain ⟨w, hw, w0, wm⟩ := own_divpos hG fa fc ga gc
  obtain ⟨w', hw', -, -⟩ := own_divpos hG fb fc gb gc
  exact ⟨own_NaN hw.1, own_NaN hw'.1, own_cgt hw (own_FN own_zero) _ w0, own_cle hw (own_FN fa) _ wm, own_cle hw hw' _ (own_dle1 hG fa fb fc ga gc le hw hw')⟩
theorem own_416t {a b c : Int64} (ha : 1 ≤ a.toInt) (hb : 1 ≤ b.toInt) (hc : 1 ≤ c.toInt) (hbc : b.toInt ≤ c.toInt) : Jvm.Free.Fl.NoNaN64 (FP.ddiv (FP.l2d a) (FP.l2d b)) ∧ Jvm.Free.Fl.NoNaN64 (FP.ddiv (FP.l2d a) (FP.l2d c)) ∧ (0 : Int32) < cmpValue (FP.dcmp (FP.ddiv (FP.l2d a) (FP.l2d c)) FP.dconst0) .l ∧ ¬ (0 : Int32) < cmpValue (FP.dcmp (FP.ddiv (FP.l2d a) (FP.l2d c)) (FP.ddiv (FP.l2d a) (FP.l2d b))) .g := by
  obtain ⟨g, U, hG⟩ := own_gUex
  obtain ⟨A, hA, A1⟩ := own_natof ha
  obtain ⟨B, hB, B1⟩ := own_natof hb
  obtain ⟨C, hC, C1⟩ := own_natof hc
  obtain ⟨m, fa⟩ := own_l2dF hA
  obtain ⟨n', fb⟩ := own_l2dF hB
  obtain ⟨n, fc⟩ := own_l2dF hC
  have ga := own_l2dge hG hA A1 fa
  have gb := own_l2dge hG hB B1 fb
  have gc := own_l2dge hG hC C1 fc
  have le := own_l2dle hB hC (by omega) fb fc
  obtain ⟨w, hw, w0, wm⟩ := own_divpos hG fa fc ga gc
  obtain ⟨w', hw', -, -⟩ := own_divpos hG fa fb ga gb
  exact ⟨own_NaN hw'.1, own_NaN hw.1, own_cgt hw (own_FN own_zero) _ w0, own_cle hw hw' _ (own_dle2 hG fa fc fb ga gc gb le hw hw')⟩

def Q_cqini (Z : State) (a : Addr) (x : Int64) (y : Int64) (h0 : Heap) (n0 : Nat) (v : Option Value) (h : Heap) (L : List Loc) : Prop := v = none ∧ Fr n0 L ∧ Keep h0 h [a] ∧ Exa Z h a "com/example/ely/ely/probe/CpuQuota" ∧ Fld Z h a "com/example/ely/ely/probe/CpuQuota" "quotaMicros" "J" (.long x) ∧ Fld Z h a "com/example/ely/ely/probe/CpuQuota" "periodMicros" "J" (.long y)
theorem ef_cqini (m : MethodId) (x0 : Addr) (x1 : Int64) (x2 : Int64) : entryFrame m #[(.ref x0), (.long x1), (.long x2)] 5 = mkF m 0 #[.val (.ref x0), .val (.long x1), .second, .val (.long x2), .second] [] := by first | (simp [entryFrame, mkF, argsToLocals, Value.category]; done) | rfl
set_option maxRecDepth 65536 in
set_option maxHeartbeats 40000000 in
theorem rm_cqini (l : Launch) (Z : State) (a0 : Array Value) (hw : ∀ d ∈ tables_1, d.before a0 Z = true) (a : Addr) (x : Int64) (y : Int64) (h0 : Heap) (n0 : Nat) (Z0 : n0 ≤ h0.size) (F_quotaMicros_a : Fld Z h0 a "com/example/ely/ely/probe/CpuQuota" "quotaMicros" "J" (.long (0 : Int64))) (F_periodMicros_a : Fld Z h0 a "com/example/ely/ely/probe/CpuQuota" "periodMicros" "J" (.long (0 : Int64))) (E_a : Exa Z h0 a "com/example/ely/ely/probe/CpuQuota") (g_a : n0 ≤ a) (hq : (0 : Int64) < x) (hp : (0 : Int64) < y) :
    Ct l Z (⟨"com/example/ely/ely/probe/CpuQuota", "<init>", "(JJ)V"⟩ : MethodName) prog_62_method_1_code 5 none [] ({ frames := 1, cells := 0, slots := 0, locals := 12 } : Room) #[(.ref a), (.long x), (.long y)] h0 (Q_cqini Z a x y h0 n0) := by
  refine own_body (plainFor_of_name pn_0) (fun m => ef_cqini m a x y) ?_
  intro p e s m below meth c T0 hx hby hml hZ hown hnm hret hlk X0 e0
  have N0 := Fr.nil n0
  refine g_aloadN X0 hx (hb hby d_prog_62_m_1_0) rfl rfl rfl ?_
  refine g_initO X0 hx hZ hown (hw _ (List.mem_of_getElem? (i := 9) rfl)) (hw _ (List.mem_of_getElem? (i := 10) rfl)) (hw _ (List.mem_of_getElem? (i := 11) rfl)) e0 (by rw [hml]; rfl) (hb hby d_prog_62_m_1_1) rfl (by decide) (W := 0) (Nat.le_of_eq rfl) (by decide) fun T1 X1 e1 => ?_
  refine g_lloadN X1 hx (hb hby d_prog_62_m_1_4) rfl rfl ?_
  refine g_lconst X1 hx (r := (0 : Int64)) (hb hby d_prog_62_m_1_5) rfl rfl ?_
  refine g_lcmp X1 hx (hb hby d_prog_62_m_1_6) rfl  ?_
  have hc7 : (0 : Int64) < x := hq
  refine g_ifN X1 hx (hb hby d_prog_62_m_1_7) rfl (XT.ll_le_f hc7) ?_
  refine g_lloadN X1 hx (hb hby d_prog_62_m_1_10) rfl rfl ?_
  refine g_lconst X1 hx (r := (0 : Int64)) (hb hby d_prog_62_m_1_11) rfl rfl ?_
  refine g_lcmp X1 hx (hb hby d_prog_62_m_1_12) rfl  ?_
  have hc13 : (0 : Int64) < y := hp
  refine g_ifY X1 hx (q := 31) (hb hby d_prog_62_m_1_13) (XT.ll_gt_t hc13) (by decide) (by decide) ?_
  refine g_aloadN X1 hx (hb hby d_prog_62_m_1_31) rfl rfl rfl ?_
  refine g_lloadN X1 hx (hb hby d_prog_62_m_1_32) rfl rfl ?_
  refine g_putF X1 hx hZ hown (host := "") (Or.inl (hw _ (List.mem_of_getElem? (i := 12) rfl))) Via.refl e1 F_quotaMicros_a E_a (Or.inr ⟨(hw _ (List.mem_of_getElem? (i := 13) rfl)), rfl, hnm⟩) (hw _ (List.mem_of_getElem? (i := 4) rfl)) (ty := .long) (by decide) rfl rfl (hb hby d_prog_62_m_1_33) rfl fun T2 h2 X2 e2 W2 F2 => ?_
  have kk2 : Keep h0 h2 [a] := (Keep.refl h0 [a]).wr W2 (Or.inl (by simp))
  have N2 := Fr.snoc X2 N0 g_a
  have Z2 : n0 ≤ h2.size := by rw [W2.size]; exact Z0
  refine g_aloadN X2 hx (hb hby d_prog_62_m_1_36) rfl rfl rfl ?_
  refine g_lloadN X2 hx (hb hby d_prog_62_m_1_37) rfl rfl ?_
  have f4 : Fld Z h2 a "com/example/ely/ely/probe/CpuQuota" "periodMicros" "J" (.long (0 : Int64)) := (F_periodMicros_a.other W2 (Or.inr (slot_ne (Or.inr (hw _ (List.mem_of_getElem? (i := 15) rfl))) (Or.inr (hw _ (List.mem_of_getElem? (i := 13) rfl))) (by decide) (t := .long) (t' := .long) (by decide) (by decide))))
  have f5 : Exa Z h2 a "com/example/ely/ely/probe/CpuQuota" := (E_a.wr W2)
  refine g_putF X2 hx hZ hown (host := "") (Or.inl (hw _ (List.mem_of_getElem? (i := 14) rfl))) Via.refl e2 f4 f5 (Or.inr ⟨(hw _ (List.mem_of_getElem? (i := 15) rfl)), rfl, hnm⟩) (hw _ (List.mem_of_getElem? (i := 4) rfl)) (ty := .long) (by decide) rfl rfl (hb hby d_prog_62_m_1_38) rfl fun T3 h3 X3 e3 W3 F3 => ?_
  have kk3 : Keep h0 h3 [a] := kk2.wr W3 (Or.inl (by simp))
  have N3 := Fr.snoc X3 N2 g_a
  have Z3 : n0 ≤ h3.size := by rw [W3.size]; exact Z2
  have f6 : Exa Z h3 a "com/example/ely/ely/probe/CpuQuota" := (f5.wr W3)
  have f7 : Fld Z h3 a "com/example/ely/ely/probe/CpuQuota" "quotaMicros" "J" (.long x) := (F2.other W3 (Or.inr (slot_ne (Or.inr (hw _ (List.mem_of_getElem? (i := 13) rfl))) (Or.inr (hw _ (List.mem_of_getElem? (i := 15) rfl))) (by decide) (t := .long) (t' := .long) (by decide) (by decide))))
  exact g_ret X3 hx hret hlk (hb hby d_prog_62_m_1_41) (by decide) (by decide) (by rw [e3]; exact ⟨rfl, N3, kk3, f6, f7, F3⟩)
def Q_cpus (Z : State) (a : Addr) (x : Int64) (y : Int64) (h0 : Heap) (n0 : Nat) (v : Option Value) (h : Heap) (L : List Loc) : Prop := v = some (.double (FP.ddiv (FP.l2d x) (FP.l2d y))) ∧ Fr n0 L ∧ h = h0
theorem ef_cpus (m : MethodId) (x0 : Addr) : entryFrame m #[(.ref x0)] 1 = mkF m 0 #[.val (.ref x0)] [] := by first | (simp [entryFrame, mkF, argsToLocals, Value.category]; done) | rfl
set_option maxRecDepth 65536 in
set_option maxHeartbeats 40000000 in
theorem rm_cpus (l : Launch) (Z : State) (a0 : Array Value) (hw : ∀ d ∈ tables_1, d.before a0 Z = true) (a : Addr) (x : Int64) (y : Int64) (h0 : Heap) (n0 : Nat) (Z0 : n0 ≤ h0.size) (F_quotaMicros_a : Fld Z h0 a "com/example/ely/ely/probe/CpuQuota" "quotaMicros" "J" (.long x)) (F_periodMicros_a : Fld Z h0 a "com/example/ely/ely/probe/CpuQuota" "periodMicros" "J" (.long y)) (hnn : Jvm.Free.Fl.NoNaN64 (FP.ddiv (FP.l2d x) (FP.l2d y))) :
    Ct l Z (⟨"com/example/ely/ely/probe/CpuQuota", "cpus", "()D"⟩ : MethodName) prog_62_method_7_code 1 (some .double) [] ({ frames := 0, cells := 0, slots := 0, locals := 0 } : Room) #[(.ref a)] h0 (Q_cpus Z a x y h0 n0) := by
  refine own_body (plainFor_of_name pn_0) (fun m => ef_cpus m a) ?_
  intro p e s m below meth c T0 hx hby hml hZ hown hnm hret hlk X0 e0
  have N0 := Fr.nil n0
  refine g_aloadN X0 hx (hb hby d_prog_62_m_7_0) rfl rfl rfl ?_
  refine g_getF X0 hx hZ hown (host := "") (Or.inl (hw _ (List.mem_of_getElem? (i := 12) rfl))) Via.refl e0 F_quotaMicros_a (hb hby d_prog_62_m_7_1) rfl fun T1 X1 e1 => ?_
  refine g_l2d X1 hx (hb hby d_prog_62_m_7_4) rfl  ?_
  refine g_aloadN X1 hx (hb hby d_prog_62_m_7_5) rfl rfl rfl ?_
  refine g_getF X1 hx hZ hown (host := "") (Or.inl (hw _ (List.mem_of_getElem? (i := 14) rfl))) Via.refl e1 F_periodMicros_a (hb hby d_prog_62_m_7_6) rfl fun T2 X2 e2 => ?_
  refine g_l2d X2 hx (hb hby d_prog_62_m_7_9) rfl  ?_
  refine g_ddiv X2 hx (hb hby d_prog_62_m_7_10) rfl hnn ?_
  exact g_retD X2 hx hret hlk (hb hby d_prog_62_m_7_11) (by decide) (by decide) (by rw [e2]; exact ⟨rfl, N0, rfl⟩)
def Q_maxJ (Z : State) (x : Int64) (y : Int64) (h0 : Heap) (n0 : Nat) (v : Option Value) (h : Heap) (L : List Loc) : Prop := v = some (.long (if x < y then y else x)) ∧ Fr n0 L ∧ h = h0
theorem ef_maxJ (m : MethodId) (x0 : Int64) (x1 : Int64) : entryFrame m #[(.long x0), (.long x1)] 4 = mkF m 0 #[.val (.long x0), .second, .val (.long x1), .second] [] := by first | (simp [entryFrame, mkF, argsToLocals, Value.category]; done) | rfl
set_option maxRecDepth 65536 in
set_option maxHeartbeats 40000000 in
theorem rm_maxJ (l : Launch) (Z : State) (a0 : Array Value) (hw : ∀ d ∈ tables_1, d.before a0 Z = true) (x : Int64) (y : Int64) (h0 : Heap) (n0 : Nat) (Z0 : n0 ≤ h0.size) :
    Ct l Z (⟨"java/lang/Math", "max", "(JJ)J"⟩ : MethodName) jdk_29_method_66_code 4 (some .long) [] ({ frames := 0, cells := 0, slots := 0, locals := 0 } : Room) #[(.long x), (.long y)] h0 (Q_maxJ Z x y h0 n0) := by
  refine own_body (Jvm.Free.JP.mathPlain rfl (by decide +kernel)) (fun m => ef_maxJ m x y) ?_
  intro p e s m below meth c T0 hx hby hml hZ hown hnm hret hlk X0 e0
  have N0 := Fr.nil n0
  refine g_lloadN X0 hx (hb hby d_jdk_29_m_66_0) rfl rfl ?_
  refine g_lloadN X0 hx (hb hby d_jdk_29_m_66_1) rfl rfl ?_
  refine g_lcmp X0 hx (hb hby d_jdk_29_m_66_2) rfl  ?_
  by_cases hc3 : x < y
  · skip
    refine g_ifY X0 hx (q := 10) (hb hby d_jdk_29_m_66_3) (XT.ll_lt_t hc3) (by decide) (by decide) ?_
    refine g_lloadN X0 hx (hb hby d_jdk_29_m_66_10) rfl rfl ?_
    exact g_retJ X0 hx hret hlk (hb hby d_jdk_29_m_66_11) (by decide) (by decide) (by rw [e0]; exact ⟨(by simp [hc3]), N0, rfl⟩)
  · skip
    refine g_ifN X0 hx (hb hby d_jdk_29_m_66_3) rfl (XT.ll_lt_f hc3) ?_
    refine g_lloadN X0 hx (hb hby d_jdk_29_m_66_6) rfl rfl ?_
    refine g_goto X0 hx (q := 11) (hb hby d_jdk_29_m_66_7) (by decide) (by decide) ?_
    exact g_retJ X0 hx hret hlk (hb hby d_jdk_29_m_66_11) (by decide) (by decide) (by rw [e0]; exact ⟨(by simp [hc3]), N0, rfl⟩)
def Q_minJ (Z : State) (x : Int64) (y : Int64) (h0 : Heap) (n0 : Nat) (v : Option Value) (h : Heap) (L : List Loc) : Prop := v = some (.long (if y < x then y else x)) ∧ Fr n0 L ∧ h = h0
theorem ef_minJ (m : MethodId) (x0 : Int64) (x1 : Int64) : entryFrame m #[(.long x0), (.long x1)] 4 = mkF m 0 #[.val (.long x0), .second, .val (.long x1), .second] [] := by first | (simp [entryFrame, mkF, argsToLocals, Value.category]; done) | rfl
set_option maxRecDepth 65536 in
set_option maxHeartbeats 40000000 in
theorem rm_minJ (l : Launch) (Z : State) (a0 : Array Value) (hw : ∀ d ∈ tables_1, d.before a0 Z = true) (x : Int64) (y : Int64) (h0 : Heap) (n0 : Nat) (Z0 : n0 ≤ h0.size) :
    Ct l Z (⟨"java/lang/Math", "min", "(JJ)J"⟩ : MethodName) jdk_29_method_70_code 4 (some .long) [] ({ frames := 0, cells := 0, slots := 0, locals := 0 } : Room) #[(.long x), (.long y)] h0 (Q_minJ Z x y h0 n0) := by
  refine own_body (Jvm.Free.JP.mathPlain rfl (by decide +kernel)) (fun m => ef_minJ m x y) ?_
  intro p e s m below meth c T0 hx hby hml hZ hown hnm hret hlk X0 e0
  have N0 := Fr.nil n0
  refine g_lloadN X0 hx (hb hby d_jdk_29_m_70_0) rfl rfl ?_
  refine g_lloadN X0 hx (hb hby d_jdk_29_m_70_1) rfl rfl ?_
  refine g_lcmp X0 hx (hb hby d_jdk_29_m_70_2) rfl  ?_
  by_cases hc3 : y < x
  · skip
    refine g_ifY X0 hx (q := 10) (hb hby d_jdk_29_m_70_3) (XT.ll_gt_t hc3) (by decide) (by decide) ?_
    refine g_lloadN X0 hx (hb hby d_jdk_29_m_70_10) rfl rfl ?_
    exact g_retJ X0 hx hret hlk (hb hby d_jdk_29_m_70_11) (by decide) (by decide) (by rw [e0]; exact ⟨(by simp [hc3]), N0, rfl⟩)
  · skip
    refine g_ifN X0 hx (hb hby d_jdk_29_m_70_3) rfl (XT.ll_gt_f hc3) ?_
    refine g_lloadN X0 hx (hb hby d_jdk_29_m_70_6) rfl rfl ?_
    refine g_goto X0 hx (q := 11) (hb hby d_jdk_29_m_70_7) (by decide) (by decide) ?_
    exact g_retJ X0 hx hret hlk (hb hby d_jdk_29_m_70_11) (by decide) (by decide) (by rw [e0]; exact ⟨(by simp [hc3]), N0, rfl⟩)
def Q_law (Z : State) (p0 : Int64) (p1 : Int64) (p2 : Int64) (p3 : Int64) (p4 : Int64) (p5 : Int64) (h0 : Heap) (n0 : Nat) (v : Option Value) (h : Heap) (L : List Loc) : Prop := v = some (.int 1) ∧ Fr n0 L
theorem ef_law (m : MethodId) (x0 : Int64) (x1 : Int64) (x2 : Int64) (x3 : Int64) (x4 : Int64) (x5 : Int64) : entryFrame m #[(.long x0), (.long x1), (.long x2), (.long x3), (.long x4), (.long x5)] maxLocals = mkF m 0 #[.val (.long x0), .second, .val (.long x1), .second, .val (.long x2), .second, .val (.long x3), .second, .val (.long x4), .second, .val (.long x5), .second, .unset, .unset, .unset, .unset, .unset, .unset, .unset, .unset, .unset, .unset, .unset, .unset, .unset, .unset, .unset, .unset, .unset, .unset, .unset, .unset, .unset, .unset, .unset, .unset, .unset, .unset, .unset, .unset, .unset, .unset, .unset, .unset, .unset, .unset, .unset, .unset, .unset, .unset, .unset, .unset, .unset, .unset] [] := by first | (simp [entryFrame, mkF, argsToLocals, Value.category, maxLocals]; done) | rfl
set_option maxRecDepth 65536 in
set_option maxHeartbeats 40000000 in
theorem rm_law (l : Launch) (Z : State) (a0 : Array Value) (hw : ∀ d ∈ tables_1, d.before a0 Z = true) (ws : List Jvm.Cond) (p0 : Int64) (p1 : Int64) (p2 : Int64) (p3 : Int64) (p4 : Int64) (p5 : Int64) (h0 : Heap) (n0 : Nat) (Z0 : n0 ≤ h0.size) :
    Ct l Z x code maxLocals ret ws room_1 #[(.long p0), (.long p1), (.long p2), (.long p3), (.long p4), (.long p5)] h0 (Q_law Z p0 p1 p2 p3 p4 p5 h0 n0) := by
  refine own_body (plainFor_of_name pn_1) (fun m => ef_law m p0 p1 p2 p3 p4 p5) ?_
  intro p e s m below meth c T0 hx hby hml hZ hown hnm hret hlk X0 e0
  have N0 := Fr.nil n0
  refine g_lloadN X0 hx (hb hby at_0) rfl rfl ?_
  refine g_ldc2 X0 hx hZ hown (hw _ (List.mem_of_getElem? (i := 0) rfl)) (hb hby at_1) rfl ?_
  refine g_land X0 hx (hb hby at_4) rfl rfl ?_
  refine g_lconst X0 hx (r := (1 : Int64)) (hb hby at_5) rfl rfl ?_
  obtain ⟨v6, hv6⟩ : ∃ r, ((p0 &&& (2147483647 : Int64)) + (1 : Int64)) = r := ⟨_, rfl⟩
  refine g_ladd X0 hx (hb hby at_6) rfl hv6 ?_
  refine g_lstore X0 hx (Ls' := #[.val (.long p0), .second, .val (.long p1), .second, .val (.long p2), .second, .val (.long p3), .second, .val (.long p4), .second, .val (.long p5), .second, .val (.long v6), .second, .unset, .unset, .unset, .unset, .unset, .unset, .unset, .unset, .unset, .unset, .unset, .unset, .unset, .unset, .unset, .unset, .unset, .unset, .unset, .unset, .unset, .unset, .unset, .unset, .unset, .unset, .unset, .unset, .unset, .unset, .unset, .unset, .unset, .unset, .unset, .unset, .unset, .unset, .unset, .unset]) (hb hby at_7) rfl rfl ?_
  refine g_lloadN X0 hx (hb hby at_9) rfl rfl ?_
  refine g_ldc2 X0 hx hZ hown (hw _ (List.mem_of_getElem? (i := 1) rfl)) (hb hby at_10) rfl ?_
  obtain ⟨v13, hv13⟩ : ∃ r, (p1 &&& (1048575 : Int64)) = r := ⟨_, rfl⟩
  refine g_land X0 hx (hb hby at_13) rfl hv13 ?_
  refine g_lstore X0 hx (Ls' := #[.val (.long p0), .second, .val (.long p1), .second, .val (.long p2), .second, .val (.long p3), .second, .val (.long p4), .second, .val (.long p5), .second, .val (.long v6), .second, .val (.long v13), .second, .unset, .unset, .unset, .unset, .unset, .unset, .unset, .unset, .unset, .unset, .unset, .unset, .unset, .unset, .unset, .unset, .unset, .unset, .unset, .unset, .unset, .unset, .unset, .unset, .unset, .unset, .unset, .unset, .unset, .unset, .unset, .unset, .unset, .unset, .unset, .unset, .unset, .unset]) (hb hby at_14) rfl rfl ?_
  refine g_lload X0 hx (hb hby at_16) rfl rfl ?_
  refine g_ldc2 X0 hx hZ hown (hw _ (List.mem_of_getElem? (i := 2) rfl)) (hb hby at_18) rfl ?_
  refine g_land X0 hx (hb hby at_21) rfl rfl ?_
  refine g_lload X0 hx (hb hby at_22) rfl rfl ?_
  obtain ⟨v24, hv24⟩ : ∃ r, ((p2 &&& (9223372036854775807 : Int64)) % v6) = r := ⟨_, rfl⟩
  refine g_lrem X0 hx (hb hby at_24) rfl (own_nz416 (own_p416 hv6).1) hv24 ?_
  refine g_lstore X0 hx (Ls' := #[.val (.long p0), .second, .val (.long p1), .second, .val (.long p2), .second, .val (.long p3), .second, .val (.long p4), .second, .val (.long p5), .second, .val (.long v6), .second, .val (.long v13), .second, .val (.long v24), .second, .unset, .unset, .unset, .unset, .unset, .unset, .unset, .unset, .unset, .unset, .unset, .unset, .unset, .unset, .unset, .unset, .unset, .unset, .unset, .unset, .unset, .unset, .unset, .unset, .unset, .unset, .unset, .unset, .unset, .unset, .unset, .unset, .unset, .unset, .unset, .unset]) (hb hby at_25) rfl rfl ?_
  refine g_lload X0 hx (hb hby at_27) rfl rfl ?_
  refine g_lconst X0 hx (r := (0 : Int64)) (hb hby at_29) rfl rfl ?_
  refine g_lcmp X0 hx (hb hby at_30) rfl  ?_
  by_cases hc31 : v13 = (0 : Int64)
  · skip
    refine g_ifN X0 hx (hb hby at_31) rfl (XT.ll_ne_f hc31) ?_
    refine g_lload X0 hx (hb hby at_34) rfl rfl ?_
    refine g_lconst X0 hx (r := (0 : Int64)) (hb hby at_36) rfl rfl ?_
    refine g_lcmp X0 hx (hb hby at_37) rfl  ?_
    by_cases hc38 : v24 = (0 : Int64)
    · skip
      refine g_ifN X0 hx (hb hby at_38) rfl (XT.ll_ne_f hc38) ?_
      refine g_lconst X0 hx (r := (1 : Int64)) (hb hby at_41) rfl rfl ?_
      refine g_lstore X0 hx (Ls' := #[.val (.long p0), .second, .val (.long p1), .second, .val (.long p2), .second, .val (.long p3), .second, .val (.long p4), .second, .val (.long p5), .second, .val (.long v6), .second, .val (.long (1 : Int64)), .second, .val (.long v24), .second, .unset, .unset, .unset, .unset, .unset, .unset, .unset, .unset, .unset, .unset, .unset, .unset, .unset, .unset, .unset, .unset, .unset, .unset, .unset, .unset, .unset, .unset, .unset, .unset, .unset, .unset, .unset, .unset, .unset, .unset, .unset, .unset, .unset, .unset, .unset, .unset]) (hb hby at_42) rfl rfl ?_
      refine g_lload X0 hx (hb hby at_44) rfl rfl ?_
      refine g_lload X0 hx (hb hby at_46) rfl rfl ?_
      refine g_lmul X0 hx (hb hby at_48) rfl rfl ?_
      refine g_lload X0 hx (hb hby at_49) rfl rfl ?_
      obtain ⟨v51, hv51⟩ : ∃ r, (((1 : Int64) * v6) + v24) = r := ⟨_, rfl⟩
      refine g_ladd X0 hx (hb hby at_51) rfl hv51 ?_
      refine g_lstore X0 hx (Ls' := #[.val (.long p0), .second, .val (.long p1), .second, .val (.long p2), .second, .val (.long p3), .second, .val (.long p4), .second, .val (.long p5), .second, .val (.long v6), .second, .val (.long (1 : Int64)), .second, .val (.long v24), .second, .val (.long v51), .second, .unset, .unset, .unset, .unset, .unset, .unset, .unset, .unset, .unset, .unset, .unset, .unset, .unset, .unset, .unset, .unset, .unset, .unset, .unset, .unset, .unset, .unset, .unset, .unset, .unset, .unset, .unset, .unset, .unset, .unset, .unset, .unset, .unset, .unset]) (hb hby at_52) rfl rfl ?_
      have hpr := own_p416 hv6
      have hrr := own_r416 hv24 hpr.1
      have har : 0 ≤ ((1 : Int64)).toInt ∧ ((1 : Int64)).toInt ≤ 1048575 := by decide
      have qa4 := own_416 hpr.1 hpr.2 har.1 har.2 hrr.1 hrr.2 hv51
      have hqp := own_q416 qa4.1 hpr.1 har.1 hrr.1 (Or.inl (by decide))
      have hpp := own_pos416 hpr.1
      have h2r := own_2r hrr.1 hrr.2 hpr.2
      refine g_new X0 hx hZ hown (hw _ (List.mem_of_getElem? (i := 3) rfl)) (hw _ (List.mem_of_getElem? (i := 4) rfl)) (hw _ (List.mem_of_getElem? (i := 5) rfl)) e0 (hb hby at_54) rfl (by decide) (by decide) fun T1 h1 b1 X1 e1 q1 E1 A1 D1 => ?_
      have g_b1 : n0 ≤ b1 := Nat.le_trans Z0 (Nat.le_of_eq q1.symm)
      have Z1 : n0 ≤ h1.size := Nat.le_trans Z0 E1.1
      have F1_quotaMicros : Fld Z h1 b1 "com/example/ely/ely/probe/CpuQuota" "quotaMicros" "J" (.long (0 : Int64)) := D1 (Or.inr (hw _ (List.mem_of_getElem? (i := 13) rfl))) (ty := .long) (by decide)
      have F1_periodMicros : Fld Z h1 b1 "com/example/ely/ely/probe/CpuQuota" "periodMicros" "J" (.long (0 : Int64)) := D1 (Or.inr (hw _ (List.mem_of_getElem? (i := 15) rfl))) (ty := .long) (by decide)
      refine g_dup X1 hx (hb hby at_57) rfl rfl ?_
      refine g_lload X1 hx (hb hby at_58) rfl rfl ?_
      refine g_lload X1 hx (hb hby at_60) rfl rfl ?_
      refine g_special X1 hx hZ hown rfl (hw _ (List.mem_of_getElem? (i := 6) rfl)) (hw _ (List.mem_of_getElem? (i := 7) rfl)) (hw _ (List.mem_of_getElem? (i := 5) rfl)) (hw _ (List.mem_of_getElem? (i := 8) rfl)) (by decide) (a := b1) (rm_cqini l Z a0 hw b1 v51 v6 h1 n0 Z1 F1_quotaMicros F1_periodMicros A1 g_b1 hqp hpp) (by rw [hml]; rfl) e1 [(.long v51), (.long v6)] rfl rfl (W := 1) (Nat.le_of_eq rfl) (by decide) (by decide) (by decide) (by decide) (lenOf pd_0 rfl) (hb hby at_62) rfl fun v2 T2 L2 X2 hQ2 => ?_
      obtain ⟨rfl, Nq2, kc2, p2_0, p2_1, p2_2⟩ := hQ2
      have N2 := Fr.app N0 Nq2
      have Z2 : n0 ≤ T2.heap.size := Nat.le_trans Z1 kc2.1
      show Ga _ _ _ _ _ _ _ _ _ _ _ [(.ref b1)]
      refine g_virtual X2 hx hZ hown (hw _ (List.mem_of_getElem? (i := 16) rfl)) (hw _ (List.mem_of_getElem? (i := 17) rfl)) (notFace_of_selects (args := #[]) (mvT hZ (hw _ (List.mem_of_getElem? (i := 19) rfl)))) (hw _ (List.mem_of_getElem? (i := 19) rfl)) (hw _ (List.mem_of_getElem? (i := 18) rfl)) (hw _ (List.mem_of_getElem? (i := 5) rfl)) (hw _ (List.mem_of_getElem? (i := 20) rfl)) (by decide) (a := b1) p2_0 (rm_cpus l Z a0 hw b1 v51 v6 T2.heap n0 Z2 p2_1 p2_2 qa4.2.1) (by rw [hml]; rfl) rfl [] rfl rfl (W := 0) (Nat.le_of_eq rfl) (by decide) (by decide) (by decide) (by decide) (lenOf pd_1 rfl) (hb hby at_65) rfl fun v3 T3 L3 X3 hQ3 => ?_
      obtain ⟨rfl, Nq3, eh3⟩ := hQ3
      have N3 := Fr.app N2 Nq3
      show Ga _ _ _ _ _ _ _ _ _ _ _ [(.double (FP.ddiv (FP.l2d v51) (FP.l2d v6)))]
      refine g_dstore X3 hx (Ls' := #[.val (.long p0), .second, .val (.long p1), .second, .val (.long p2), .second, .val (.long p3), .second, .val (.long p4), .second, .val (.long p5), .second, .val (.long v6), .second, .val (.long (1 : Int64)), .second, .val (.long v24), .second, .val (.long v51), .second, .val (.double (FP.ddiv (FP.l2d v51) (FP.l2d v6))), .second, .unset, .unset, .unset, .unset, .unset, .unset, .unset, .unset, .unset, .unset, .unset, .unset, .unset, .unset, .unset, .unset, .unset, .unset, .unset, .unset, .unset, .unset, .unset, .unset, .unset, .unset, .unset, .unset, .unset, .unset, .unset, .unset]) (hb hby at_68) rfl rfl ?_
      refine g_lload X3 hx (hb hby at_70) rfl rfl ?_
      refine g_l2d X3 hx (hb hby at_72) rfl  ?_
      refine g_dstore X3 hx (Ls' := #[.val (.long p0), .second, .val (.long p1), .second, .val (.long p2), .second, .val (.long p3), .second, .val (.long p4), .second, .val (.long p5), .second, .val (.long v6), .second, .val (.long (1 : Int64)), .second, .val (.long v24), .second, .val (.long v51), .second, .val (.double (FP.ddiv (FP.l2d v51) (FP.l2d v6))), .second, .val (.double (FP.l2d (1 : Int64))), .second, .unset, .unset, .unset, .unset, .unset, .unset, .unset, .unset, .unset, .unset, .unset, .unset, .unset, .unset, .unset, .unset, .unset, .unset, .unset, .unset, .unset, .unset, .unset, .unset, .unset, .unset, .unset, .unset, .unset, .unset]) (hb hby at_73) rfl rfl ?_
      refine g_dload X3 hx (hb hby at_75) rfl rfl ?_
      refine g_ldc2D X3 hx hZ hown (hw _ (List.mem_of_getElem? (i := 21) rfl)) (hb hby at_77) rfl ?_
      refine g_dadd X3 hx (hb hby at_80) rfl qa4.2.2.1 ?_
      refine g_dstore X3 hx (Ls' := #[.val (.long p0), .second, .val (.long p1), .second, .val (.long p2), .second, .val (.long p3), .second, .val (.long p4), .second, .val (.long p5), .second, .val (.long v6), .second, .val (.long (1 : Int64)), .second, .val (.long v24), .second, .val (.long v51), .second, .val (.double (FP.ddiv (FP.l2d v51) (FP.l2d v6))), .second, .val (.double (FP.l2d (1 : Int64))), .second, .val (.double (FP.dadd (FP.l2d (1 : Int64)) 4602678819172646912)), .second, .unset, .unset, .unset, .unset, .unset, .unset, .unset, .unset, .unset, .unset, .unset, .unset, .unset, .unset, .unset, .unset, .unset, .unset, .unset, .unset, .unset, .unset, .unset, .unset, .unset, .unset, .unset, .unset]) (hb hby at_81) rfl rfl ?_
      have J223 : Ga p e below s (Q_law Z p0 p1 p2 p3 p4 p5 h0 n0) room_1.cells room_1.slots T3 m 223 #[.val (.long p0), .second, .val (.long p1), .second, .val (.long p2), .second, .val (.long p3), .second, .val (.long p4), .second, .val (.long p5), .second, .val (.long v6), .second, .val (.long (1 : Int64)), .second, .val (.long v24), .second, .val (.long v51), .second, .val (.double (FP.ddiv (FP.l2d v51) (FP.l2d v6))), .second, .val (.double (FP.l2d (1 : Int64))), .second, .val (.double (FP.dadd (FP.l2d (1 : Int64)) 4602678819172646912)), .second, .val (.int (1 : Int32)), .val (.int (1 : Int32)), .val (.int (1 : Int32)), .val (.int (1 : Int32)), .unset, .unset, .unset, .unset, .unset, .unset, .unset, .unset, .unset, .unset, .unset, .unset, .unset, .unset, .unset, .unset, .unset, .unset, .unset, .unset, .unset, .unset, .unset, .unset] [] := by
        refine g_lconst X3 hx (r := (1 : Int64)) (hb hby at_223) rfl rfl ?_
        refine g_lload X3 hx (hb hby at_224) rfl rfl ?_
        refine g_ldc2 X3 hx hZ hown (hw _ (List.mem_of_getElem? (i := 2) rfl)) (hb hby at_226) rfl ?_
        refine g_land X3 hx (hb hby at_229) rfl rfl ?_
        refine g_static X3 hx hZ hown (hw _ (List.mem_of_getElem? (i := 23) rfl)) (hw _ (List.mem_of_getElem? (i := 24) rfl)) (hw _ (List.mem_of_getElem? (i := 25) rfl)) (hw _ (List.mem_of_getElem? (i := 26) rfl)) (by decide) (rm_maxJ l Z a0 hw (1 : Int64) (p3 &&& (9223372036854775807 : Int64)) T2.heap n0 Z2) (by rw [hml]; rfl) eh3 [(.long (1 : Int64)), (.long (p3 &&& (9223372036854775807 : Int64)))] rfl rfl (W := 0) (Nat.le_of_eq rfl) (by decide) (by decide) (by decide) (by decide) (lenOf pd_2 rfl) (hb hby at_230) rfl fun v4 T4 L4 X4 hQ4 => ?_
        obtain ⟨rfl, Nq4, eh4⟩ := hQ4
        have N4 := Fr.app N3 Nq4
        show Ga _ _ _ _ _ _ _ _ _ _ _ [(.long (if (1 : Int64) < (p3 &&& (9223372036854775807 : Int64)) then (p3 &&& (9223372036854775807 : Int64)) else (1 : Int64)))]
        generalize hr230 : (if (1 : Int64) < (p3 &&& (9223372036854775807 : Int64)) then (p3 &&& (9223372036854775807 : Int64)) else (1 : Int64)) = r230
        refine g_lstore X4 hx (Ls' := #[.val (.long p0), .second, .val (.long p1), .second, .val (.long p2), .second, .val (.long p3), .second, .val (.long p4), .second, .val (.long p5), .second, .val (.long v6), .second, .val (.long (1 : Int64)), .second, .val (.long v24), .second, .val (.long v51), .second, .val (.double (FP.ddiv (FP.l2d v51) (FP.l2d v6))), .second, .val (.double (FP.l2d (1 : Int64))), .second, .val (.double (FP.dadd (FP.l2d (1 : Int64)) 4602678819172646912)), .second, .val (.int (1 : Int32)), .val (.int (1 : Int32)), .val (.int (1 : Int32)), .val (.int (1 : Int32)), .val (.long r230), .second, .unset, .unset, .unset, .unset, .unset, .unset, .unset, .unset, .unset, .unset, .unset, .unset, .unset, .unset, .unset, .unset, .unset, .unset, .unset, .unset, .unset, .unset]) (hb hby at_233) rfl rfl ?_
        refine g_lconst X4 hx (r := (1 : Int64)) (hb hby at_235) rfl rfl ?_
        refine g_lload X4 hx (hb hby at_236) rfl rfl ?_
        refine g_ldc2 X4 hx hZ hown (hw _ (List.mem_of_getElem? (i := 2) rfl)) (hb hby at_238) rfl ?_
        refine g_land X4 hx (hb hby at_241) rfl rfl ?_
        refine g_static X4 hx hZ hown (hw _ (List.mem_of_getElem? (i := 23) rfl)) (hw _ (List.mem_of_getElem? (i := 24) rfl)) (hw _ (List.mem_of_getElem? (i := 25) rfl)) (hw _ (List.mem_of_getElem? (i := 26) rfl)) (by decide) (rm_maxJ l Z a0 hw (1 : Int64) (p4 &&& (9223372036854775807 : Int64)) T2.heap n0 Z2) (by rw [hml]; rfl) eh4 [(.long (1 : Int64)), (.long (p4 &&& (9223372036854775807 : Int64)))] rfl rfl (W := 0) (Nat.le_of_eq rfl) (by decide) (by decide) (by decide) (by decide) (lenOf pd_2 rfl) (hb hby at_242) rfl fun v5 T5 L5 X5 hQ5 => ?_
        obtain ⟨rfl, Nq5, eh5⟩ := hQ5
        have N5 := Fr.app N4 Nq5
        show Ga _ _ _ _ _ _ _ _ _ _ _ [(.long (if (1 : Int64) < (p4 &&& (9223372036854775807 : Int64)) then (p4 &&& (9223372036854775807 : Int64)) else (1 : Int64)))]
        generalize hr242 : (if (1 : Int64) < (p4 &&& (9223372036854775807 : Int64)) then (p4 &&& (9223372036854775807 : Int64)) else (1 : Int64)) = r242
        refine g_lstore X5 hx (Ls' := #[.val (.long p0), .second, .val (.long p1), .second, .val (.long p2), .second, .val (.long p3), .second, .val (.long p4), .second, .val (.long p5), .second, .val (.long v6), .second, .val (.long (1 : Int64)), .second, .val (.long v24), .second, .val (.long v51), .second, .val (.double (FP.ddiv (FP.l2d v51) (FP.l2d v6))), .second, .val (.double (FP.l2d (1 : Int64))), .second, .val (.double (FP.dadd (FP.l2d (1 : Int64)) 4602678819172646912)), .second, .val (.int (1 : Int32)), .val (.int (1 : Int32)), .val (.int (1 : Int32)), .val (.int (1 : Int32)), .val (.long r230), .second, .val (.long r242), .second, .unset, .unset, .unset, .unset, .unset, .unset, .unset, .unset, .unset, .unset, .unset, .unset, .unset, .unset, .unset, .unset, .unset, .unset, .unset, .unset]) (hb hby at_245) rfl rfl ?_
        refine g_lconst X5 hx (r := (1 : Int64)) (hb hby at_247) rfl rfl ?_
        refine g_lload X5 hx (hb hby at_248) rfl rfl ?_
        refine g_ldc2 X5 hx hZ hown (hw _ (List.mem_of_getElem? (i := 2) rfl)) (hb hby at_250) rfl ?_
        refine g_land X5 hx (hb hby at_253) rfl rfl ?_
        refine g_static X5 hx hZ hown (hw _ (List.mem_of_getElem? (i := 23) rfl)) (hw _ (List.mem_of_getElem? (i := 24) rfl)) (hw _ (List.mem_of_getElem? (i := 25) rfl)) (hw _ (List.mem_of_getElem? (i := 26) rfl)) (by decide) (rm_maxJ l Z a0 hw (1 : Int64) (p5 &&& (9223372036854775807 : Int64)) T2.heap n0 Z2) (by rw [hml]; rfl) eh5 [(.long (1 : Int64)), (.long (p5 &&& (9223372036854775807 : Int64)))] rfl rfl (W := 0) (Nat.le_of_eq rfl) (by decide) (by decide) (by decide) (by decide) (lenOf pd_2 rfl) (hb hby at_254) rfl fun v6 T6 L6 X6 hQ6 => ?_
        obtain ⟨rfl, Nq6, eh6⟩ := hQ6
        have N6 := Fr.app N5 Nq6
        show Ga _ _ _ _ _ _ _ _ _ _ _ [(.long (if (1 : Int64) < (p5 &&& (9223372036854775807 : Int64)) then (p5 &&& (9223372036854775807 : Int64)) else (1 : Int64)))]
        generalize hr254 : (if (1 : Int64) < (p5 &&& (9223372036854775807 : Int64)) then (p5 &&& (9223372036854775807 : Int64)) else (1 : Int64)) = r254
        refine g_lstore X6 hx (Ls' := #[.val (.long p0), .second, .val (.long p1), .second, .val (.long p2), .second, .val (.long p3), .second, .val (.long p4), .second, .val (.long p5), .second, .val (.long v6), .second, .val (.long (1 : Int64)), .second, .val (.long v24), .second, .val (.long v51), .second, .val (.double (FP.ddiv (FP.l2d v51) (FP.l2d v6))), .second, .val (.double (FP.l2d (1 : Int64))), .second, .val (.double (FP.dadd (FP.l2d (1 : Int64)) 4602678819172646912)), .second, .val (.int (1 : Int32)), .val (.int (1 : Int32)), .val (.int (1 : Int32)), .val (.int (1 : Int32)), .val (.long r230), .second, .val (.long r242), .second, .val (.long r254), .second, .unset, .unset, .unset, .unset, .unset, .unset, .unset, .unset, .unset, .unset, .unset, .unset, .unset, .unset, .unset, .unset, .unset, .unset]) (hb hby at_257) rfl rfl ?_
        refine g_lload X6 hx (hb hby at_259) rfl rfl ?_
        refine g_lload X6 hx (hb hby at_261) rfl rfl ?_
        refine g_static X6 hx hZ hown (hw _ (List.mem_of_getElem? (i := 27) rfl)) (hw _ (List.mem_of_getElem? (i := 28) rfl)) (hw _ (List.mem_of_getElem? (i := 25) rfl)) (hw _ (List.mem_of_getElem? (i := 29) rfl)) (by decide) (rm_minJ l Z a0 hw r230 r242 T2.heap n0 Z2) (by rw [hml]; rfl) eh6 [(.long r230), (.long r242)] rfl rfl (W := 0) (Nat.le_of_eq rfl) (by decide) (by decide) (by decide) (by decide) (lenOf pd_2 rfl) (hb hby at_263) rfl fun v7 T7 L7 X7 hQ7 => ?_
        obtain ⟨rfl, Nq7, eh7⟩ := hQ7
        have N7 := Fr.app N6 Nq7
        show Ga _ _ _ _ _ _ _ _ _ _ _ [(.long (if r242 < r230 then r242 else r230))]
        generalize hr263 : (if r242 < r230 then r242 else r230) = r263
        refine g_lstore X7 hx (Ls' := #[.val (.long p0), .second, .val (.long p1), .second, .val (.long p2), .second, .val (.long p3), .second, .val (.long p4), .second, .val (.long p5), .second, .val (.long v6), .second, .val (.long (1 : Int64)), .second, .val (.long v24), .second, .val (.long v51), .second, .val (.double (FP.ddiv (FP.l2d v51) (FP.l2d v6))), .second, .val (.double (FP.l2d (1 : Int64))), .second, .val (.double (FP.dadd (FP.l2d (1 : Int64)) 4602678819172646912)), .second, .val (.int (1 : Int32)), .val (.int (1 : Int32)), .val (.int (1 : Int32)), .val (.int (1 : Int32)), .val (.long r230), .second, .val (.long r242), .second, .val (.long r254), .second, .val (.long r263), .second, .unset, .unset, .unset, .unset, .unset, .unset, .unset, .unset, .unset, .unset, .unset, .unset, .unset, .unset, .unset, .unset]) (hb hby at_266) rfl rfl ?_
        refine g_lload X7 hx (hb hby at_268) rfl rfl ?_
        refine g_lload X7 hx (hb hby at_270) rfl rfl ?_
        refine g_static X7 hx hZ hown (hw _ (List.mem_of_getElem? (i := 23) rfl)) (hw _ (List.mem_of_getElem? (i := 24) rfl)) (hw _ (List.mem_of_getElem? (i := 25) rfl)) (hw _ (List.mem_of_getElem? (i := 26) rfl)) (by decide) (rm_maxJ l Z a0 hw r230 r242 T2.heap n0 Z2) (by rw [hml]; rfl) eh7 [(.long r230), (.long r242)] rfl rfl (W := 0) (Nat.le_of_eq rfl) (by decide) (by decide) (by decide) (by decide) (lenOf pd_2 rfl) (hb hby at_272) rfl fun v8 T8 L8 X8 hQ8 => ?_
        obtain ⟨rfl, Nq8, eh8⟩ := hQ8
        have N8 := Fr.app N7 Nq8
        show Ga _ _ _ _ _ _ _ _ _ _ _ [(.long (if r230 < r242 then r242 else r230))]
        generalize hr272 : (if r230 < r242 then r242 else r230) = r272
        refine g_lstore X8 hx (Ls' := #[.val (.long p0), .second, .val (.long p1), .second, .val (.long p2), .second, .val (.long p3), .second, .val (.long p4), .second, .val (.long p5), .second, .val (.long v6), .second, .val (.long (1 : Int64)), .second, .val (.long v24), .second, .val (.long v51), .second, .val (.double (FP.ddiv (FP.l2d v51) (FP.l2d v6))), .second, .val (.double (FP.l2d (1 : Int64))), .second, .val (.double (FP.dadd (FP.l2d (1 : Int64)) 4602678819172646912)), .second, .val (.int (1 : Int32)), .val (.int (1 : Int32)), .val (.int (1 : Int32)), .val (.int (1 : Int32)), .val (.long r230), .second, .val (.long r242), .second, .val (.long r254), .second, .val (.long r263), .second, .val (.long r272), .second, .unset, .unset, .unset, .unset, .unset, .unset, .unset, .unset, .unset, .unset, .unset, .unset, .unset, .unset]) (hb hby at_275) rfl rfl ?_
        have hu := own_max1 hr230
        have hv := own_max1 hr242
        have hw1 := own_max1 hr254
        have hlo := own_min2 hr263 hu hv
        have hhi := own_max2 hr272 hu hv
        have qa5 := own_416x hlo.1 hhi.1 hw1 (Int.le_trans hlo.2.1 hhi.2.1)
        refine g_new X8 hx hZ hown (hw _ (List.mem_of_getElem? (i := 3) rfl)) (hw _ (List.mem_of_getElem? (i := 4) rfl)) (hw _ (List.mem_of_getElem? (i := 5) rfl)) eh8 (hb hby at_277) rfl (by decide) (by decide) fun T9 h9 b9 X9 e9 q9 E9 A9 D9 => ?_
        have ne_b1_b9 : b1 ≠ b9 := own_ne p2_0.lt q9
        have g_b9 : n0 ≤ b9 := Nat.le_trans Z2 (Nat.le_of_eq q9.symm)
        have Z9 : n0 ≤ h9.size := Nat.le_trans Z2 E9.1
        have F9_quotaMicros : Fld Z h9 b9 "com/example/ely/ely/probe/CpuQuota" "quotaMicros" "J" (.long (0 : Int64)) := D9 (Or.inr (hw _ (List.mem_of_getElem? (i := 13) rfl))) (ty := .long) (by decide)
        have F9_periodMicros : Fld Z h9 b9 "com/example/ely/ely/probe/CpuQuota" "periodMicros" "J" (.long (0 : Int64)) := D9 (Or.inr (hw _ (List.mem_of_getElem? (i := 15) rfl))) (ty := .long) (by decide)
        refine g_dup X9 hx (hb hby at_280) rfl rfl ?_
        refine g_lload X9 hx (hb hby at_281) rfl rfl ?_
        refine g_lload X9 hx (hb hby at_283) rfl rfl ?_
        refine g_special X9 hx hZ hown rfl (hw _ (List.mem_of_getElem? (i := 6) rfl)) (hw _ (List.mem_of_getElem? (i := 7) rfl)) (hw _ (List.mem_of_getElem? (i := 5) rfl)) (hw _ (List.mem_of_getElem? (i := 8) rfl)) (by decide) (a := b9) (rm_cqini l Z a0 hw b9 r263 r254 h9 n0 Z9 F9_quotaMicros F9_periodMicros A9 g_b9 (own_pos416 (Int.lt_of_lt_of_le Int.zero_lt_one hlo.1)) (own_pos416 (Int.lt_of_lt_of_le Int.zero_lt_one hw1))) (by rw [hml]; rfl) e9 [(.long r263), (.long r254)] rfl rfl (W := 1) (Nat.le_of_eq rfl) (by decide) (by decide) (by decide) (by decide) (lenOf pd_0 rfl) (hb hby at_285) rfl fun v10 T10 L10 X10 hQ10 => ?_
        obtain ⟨rfl, Nq10, kc10, p10_0, p10_1, p10_2⟩ := hQ10
        have N10 := Fr.app N8 Nq10
        have Z10 : n0 ≤ T10.heap.size := Nat.le_trans Z9 kc10.1
        show Ga _ _ _ _ _ _ _ _ _ _ _ [(.ref b9)]
        refine g_virtual X10 hx hZ hown (hw _ (List.mem_of_getElem? (i := 16) rfl)) (hw _ (List.mem_of_getElem? (i := 17) rfl)) (notFace_of_selects (args := #[]) (mvT hZ (hw _ (List.mem_of_getElem? (i := 19) rfl)))) (hw _ (List.mem_of_getElem? (i := 19) rfl)) (hw _ (List.mem_of_getElem? (i := 18) rfl)) (hw _ (List.mem_of_getElem? (i := 5) rfl)) (hw _ (List.mem_of_getElem? (i := 20) rfl)) (by decide) (a := b9) p10_0 (rm_cpus l Z a0 hw b9 r263 r254 T10.heap n0 Z10 p10_1 p10_2 qa5.1) (by rw [hml]; rfl) rfl [] rfl rfl (W := 0) (Nat.le_of_eq rfl) (by decide) (by decide) (by decide) (by decide) (lenOf pd_1 rfl) (hb hby at_288) rfl fun v11 T11 L11 X11 hQ11 => ?_
        obtain ⟨rfl, Nq11, eh11⟩ := hQ11
        have N11 := Fr.app N10 Nq11
        show Ga _ _ _ _ _ _ _ _ _ _ _ [(.double (FP.ddiv (FP.l2d r263) (FP.l2d r254)))]
        refine g_dstore X11 hx (Ls' := #[.val (.long p0), .second, .val (.long p1), .second, .val (.long p2), .second, .val (.long p3), .second, .val (.long p4), .second, .val (.long p5), .second, .val (.long v6), .second, .val (.long (1 : Int64)), .second, .val (.long v24), .second, .val (.long v51), .second, .val (.double (FP.ddiv (FP.l2d v51) (FP.l2d v6))), .second, .val (.double (FP.l2d (1 : Int64))), .second, .val (.double (FP.dadd (FP.l2d (1 : Int64)) 4602678819172646912)), .second, .val (.int (1 : Int32)), .val (.int (1 : Int32)), .val (.int (1 : Int32)), .val (.int (1 : Int32)), .val (.long r230), .second, .val (.long r242), .second, .val (.long r254), .second, .val (.long r263), .second, .val (.long r272), .second, .val (.double (FP.ddiv (FP.l2d r263) (FP.l2d r254))), .second, .unset, .unset, .unset, .unset, .unset, .unset, .unset, .unset, .unset, .unset, .unset, .unset]) (hb hby at_291) rfl rfl ?_
        have f13 : Exa Z T10.heap b1 "com/example/ely/ely/probe/CpuQuota" := ((p2_0.ext E9).keep kc10)
        refine g_new X11 hx hZ hown (hw _ (List.mem_of_getElem? (i := 3) rfl)) (hw _ (List.mem_of_getElem? (i := 4) rfl)) (hw _ (List.mem_of_getElem? (i := 5) rfl)) eh11 (hb hby at_293) rfl (by decide) (by decide) fun T12 h12 b12 X12 e12 q12 E12 A12 D12 => ?_
        have ne_b1_b12 : b1 ≠ b12 := own_ne f13.lt q12
        have ne_b9_b12 : b9 ≠ b12 := own_ne p10_0.lt q12
        have g_b12 : n0 ≤ b12 := Nat.le_trans Z10 (Nat.le_of_eq q12.symm)
        have Z12 : n0 ≤ h12.size := Nat.le_trans Z10 E12.1
        have F12_quotaMicros : Fld Z h12 b12 "com/example/ely/ely/probe/CpuQuota" "quotaMicros" "J" (.long (0 : Int64)) := D12 (Or.inr (hw _ (List.mem_of_getElem? (i := 13) rfl))) (ty := .long) (by decide)
        have F12_periodMicros : Fld Z h12 b12 "com/example/ely/ely/probe/CpuQuota" "periodMicros" "J" (.long (0 : Int64)) := D12 (Or.inr (hw _ (List.mem_of_getElem? (i := 15) rfl))) (ty := .long) (by decide)
        refine g_dup X12 hx (hb hby at_296) rfl rfl ?_
        refine g_lload X12 hx (hb hby at_297) rfl rfl ?_
        refine g_lload X12 hx (hb hby at_299) rfl rfl ?_
        refine g_special X12 hx hZ hown rfl (hw _ (List.mem_of_getElem? (i := 6) rfl)) (hw _ (List.mem_of_getElem? (i := 7) rfl)) (hw _ (List.mem_of_getElem? (i := 5) rfl)) (hw _ (List.mem_of_getElem? (i := 8) rfl)) (by decide) (a := b12) (rm_cqini l Z a0 hw b12 r272 r254 h12 n0 Z12 F12_quotaMicros F12_periodMicros A12 g_b12 (own_pos416 (Int.lt_of_lt_of_le Int.zero_lt_one hhi.1)) (own_pos416 (Int.lt_of_lt_of_le Int.zero_lt_one hw1))) (by rw [hml]; rfl) e12 [(.long r272), (.long r254)] rfl rfl (W := 1) (Nat.le_of_eq rfl) (by decide) (by decide) (by decide) (by decide) (lenOf pd_0 rfl) (hb hby at_301) rfl fun v14 T14 L14 X14 hQ14 => ?_
        obtain ⟨rfl, Nq14, kc14, p14_0, p14_1, p14_2⟩ := hQ14
        have N14 := Fr.app N11 Nq14
        have Z14 : n0 ≤ T14.heap.size := Nat.le_trans Z12 kc14.1
        show Ga _ _ _ _ _ _ _ _ _ _ _ [(.ref b12)]
        refine g_virtual X14 hx hZ hown (hw _ (List.mem_of_getElem? (i := 16) rfl)) (hw _ (List.mem_of_getElem? (i := 17) rfl)) (notFace_of_selects (args := #[]) (mvT hZ (hw _ (List.mem_of_getElem? (i := 19) rfl)))) (hw _ (List.mem_of_getElem? (i := 19) rfl)) (hw _ (List.mem_of_getElem? (i := 18) rfl)) (hw _ (List.mem_of_getElem? (i := 5) rfl)) (hw _ (List.mem_of_getElem? (i := 20) rfl)) (by decide) (a := b12) p14_0 (rm_cpus l Z a0 hw b12 r272 r254 T14.heap n0 Z14 p14_1 p14_2 qa5.2.1) (by rw [hml]; rfl) rfl [] rfl rfl (W := 0) (Nat.le_of_eq rfl) (by decide) (by decide) (by decide) (by decide) (lenOf pd_1 rfl) (hb hby at_304) rfl fun v15 T15 L15 X15 hQ15 => ?_
        obtain ⟨rfl, Nq15, eh15⟩ := hQ15
        have N15 := Fr.app N14 Nq15
        show Ga _ _ _ _ _ _ _ _ _ _ _ [(.double (FP.ddiv (FP.l2d r272) (FP.l2d r254)))]
        refine g_dstore X15 hx (Ls' := #[.val (.long p0), .second, .val (.long p1), .second, .val (.long p2), .second, .val (.long p3), .second, .val (.long p4), .second, .val (.long p5), .second, .val (.long v6), .second, .val (.long (1 : Int64)), .second, .val (.long v24), .second, .val (.long v51), .second, .val (.double (FP.ddiv (FP.l2d v51) (FP.l2d v6))), .second, .val (.double (FP.l2d (1 : Int64))), .second, .val (.double (FP.dadd (FP.l2d (1 : Int64)) 4602678819172646912)), .second, .val (.int (1 : Int32)), .val (.int (1 : Int32)), .val (.int (1 : Int32)), .val (.int (1 : Int32)), .val (.long r230), .second, .val (.long r242), .second, .val (.long r254), .second, .val (.long r263), .second, .val (.long r272), .second, .val (.double (FP.ddiv (FP.l2d r263) (FP.l2d r254))), .second, .val (.double (FP.ddiv (FP.l2d r272) (FP.l2d r254))), .second, .unset, .unset, .unset, .unset, .unset, .unset, .unset, .unset, .unset, .unset]) (hb hby at_307) rfl rfl ?_
        refine g_dload X15 hx (hb hby at_309) rfl rfl ?_
        refine g_dconst0 X15 hx (hb hby at_311) rfl  ?_
        refine g_dcmp X15 hx (hb hby at_312) rfl  ?_
        have hc313 : (0 : Int32) < (cmpValue (FP.dcmp (FP.ddiv (FP.l2d r263) (FP.l2d r254)) FP.dconst0) .l) := qa5.2.2.1
        refine g_ifN X15 hx (hb hby at_313) rfl (XT.i0_le_f hc313) ?_
        refine g_dload X15 hx (hb hby at_316) rfl rfl ?_
        refine g_lload X15 hx (hb hby at_318) rfl rfl ?_
        refine g_l2d X15 hx (hb hby at_320) rfl  ?_
        refine g_dcmp X15 hx (hb hby at_321) rfl  ?_
        have hc322 : ¬ (0 : Int32) < (cmpValue (FP.dcmp (FP.ddiv (FP.l2d r263) (FP.l2d r254)) (FP.l2d r263)) .g) := qa5.2.2.2.1
        refine g_ifN X15 hx (hb hby at_322) rfl (XT.i0_gt_f hc322) ?_
        refine g_dload X15 hx (hb hby at_325) rfl rfl ?_
        refine g_dload X15 hx (hb hby at_327) rfl rfl ?_
        refine g_dcmp X15 hx (hb hby at_329) rfl  ?_
        have hc330 : ¬ (0 : Int32) < (cmpValue (FP.dcmp (FP.ddiv (FP.l2d r263) (FP.l2d r254)) (FP.ddiv (FP.l2d r272) (FP.l2d r254))) .g) := qa5.2.2.2.2
        refine g_ifN X15 hx (hb hby at_330) rfl (XT.i0_gt_f hc330) ?_
        refine g_iconst X15 hx (r := (1 : Int32)) (hb hby at_333) rfl rfl ?_
        refine g_goto X15 hx (q := 338) (hb hby at_334) (by decide) (by decide) ?_
        refine g_istore X15 hx (Ls' := #[.val (.long p0), .second, .val (.long p1), .second, .val (.long p2), .second, .val (.long p3), .second, .val (.long p4), .second, .val (.long p5), .second, .val (.long v6), .second, .val (.long (1 : Int64)), .second, .val (.long v24), .second, .val (.long v51), .second, .val (.double (FP.ddiv (FP.l2d v51) (FP.l2d v6))), .second, .val (.double (FP.l2d (1 : Int64))), .second, .val (.double (FP.dadd (FP.l2d (1 : Int64)) 4602678819172646912)), .second, .val (.int (1 : Int32)), .val (.int (1 : Int32)), .val (.int (1 : Int32)), .val (.int (1 : Int32)), .val (.long r230), .second, .val (.long r242), .second, .val (.long r254), .second, .val (.long r263), .second, .val (.long r272), .second, .val (.double (FP.ddiv (FP.l2d r263) (FP.l2d r254))), .second, .val (.double (FP.ddiv (FP.l2d r272) (FP.l2d r254))), .second, .val (.int (1 : Int32)), .unset, .unset, .unset, .unset, .unset, .unset, .unset, .unset, .unset]) (hb hby at_338) rfl rfl ?_
        refine g_lload X15 hx (hb hby at_340) rfl rfl ?_
        refine g_lload X15 hx (hb hby at_342) rfl rfl ?_
        refine g_static X15 hx hZ hown (hw _ (List.mem_of_getElem? (i := 27) rfl)) (hw _ (List.mem_of_getElem? (i := 28) rfl)) (hw _ (List.mem_of_getElem? (i := 25) rfl)) (hw _ (List.mem_of_getElem? (i := 29) rfl)) (by decide) (rm_minJ l Z a0 hw r254 r242 T14.heap n0 Z14) (by rw [hml]; rfl) eh15 [(.long r254), (.long r242)] rfl rfl (W := 0) (Nat.le_of_eq rfl) (by decide) (by decide) (by decide) (by decide) (lenOf pd_2 rfl) (hb hby at_344) rfl fun v16 T16 L16 X16 hQ16 => ?_
        obtain ⟨rfl, Nq16, eh16⟩ := hQ16
        have N16 := Fr.app N15 Nq16
        show Ga _ _ _ _ _ _ _ _ _ _ _ [(.long (if r242 < r254 then r242 else r254))]
        generalize hr344 : (if r242 < r254 then r242 else r254) = r344
        refine g_lstore X16 hx (Ls' := #[.val (.long p0), .second, .val (.long p1), .second, .val (.long p2), .second, .val (.long p3), .second, .val (.long p4), .second, .val (.long p5), .second, .val (.long v6), .second, .val (.long (1 : Int64)), .second, .val (.long v24), .second, .val (.long v51), .second, .val (.double (FP.ddiv (FP.l2d v51) (FP.l2d v6))), .second, .val (.double (FP.l2d (1 : Int64))), .second, .val (.double (FP.dadd (FP.l2d (1 : Int64)) 4602678819172646912)), .second, .val (.int (1 : Int32)), .val (.int (1 : Int32)), .val (.int (1 : Int32)), .val (.int (1 : Int32)), .val (.long r230), .second, .val (.long r242), .second, .val (.long r254), .second, .val (.long r263), .second, .val (.long r272), .second, .val (.double (FP.ddiv (FP.l2d r263) (FP.l2d r254))), .second, .val (.double (FP.ddiv (FP.l2d r272) (FP.l2d r254))), .second, .val (.int (1 : Int32)), .val (.long r344), .second, .unset, .unset, .unset, .unset, .unset, .unset, .unset]) (hb hby at_347) rfl rfl ?_
        refine g_lload X16 hx (hb hby at_349) rfl rfl ?_
        refine g_lload X16 hx (hb hby at_351) rfl rfl ?_
        refine g_static X16 hx hZ hown (hw _ (List.mem_of_getElem? (i := 23) rfl)) (hw _ (List.mem_of_getElem? (i := 24) rfl)) (hw _ (List.mem_of_getElem? (i := 25) rfl)) (hw _ (List.mem_of_getElem? (i := 26) rfl)) (by decide) (rm_maxJ l Z a0 hw r254 r242 T14.heap n0 Z14) (by rw [hml]; rfl) eh16 [(.long r254), (.long r242)] rfl rfl (W := 0) (Nat.le_of_eq rfl) (by decide) (by decide) (by decide) (by decide) (lenOf pd_2 rfl) (hb hby at_353) rfl fun v17 T17 L17 X17 hQ17 => ?_
        obtain ⟨rfl, Nq17, eh17⟩ := hQ17
        have N17 := Fr.app N16 Nq17
        show Ga _ _ _ _ _ _ _ _ _ _ _ [(.long (if r254 < r242 then r242 else r254))]
        generalize hr353 : (if r254 < r242 then r242 else r254) = r353
        refine g_lstore X17 hx (Ls' := #[.val (.long p0), .second, .val (.long p1), .second, .val (.long p2), .second, .val (.long p3), .second, .val (.long p4), .second, .val (.long p5), .second, .val (.long v6), .second, .val (.long (1 : Int64)), .second, .val (.long v24), .second, .val (.long v51), .second, .val (.double (FP.ddiv (FP.l2d v51) (FP.l2d v6))), .second, .val (.double (FP.l2d (1 : Int64))), .second, .val (.double (FP.dadd (FP.l2d (1 : Int64)) 4602678819172646912)), .second, .val (.int (1 : Int32)), .val (.int (1 : Int32)), .val (.int (1 : Int32)), .val (.int (1 : Int32)), .val (.long r230), .second, .val (.long r242), .second, .val (.long r254), .second, .val (.long r263), .second, .val (.long r272), .second, .val (.double (FP.ddiv (FP.l2d r263) (FP.l2d r254))), .second, .val (.double (FP.ddiv (FP.l2d r272) (FP.l2d r254))), .second, .val (.int (1 : Int32)), .val (.long r344), .second, .val (.long r353), .second, .unset, .unset, .unset, .unset, .unset]) (hb hby at_356) rfl rfl ?_
        have hpl := own_min2 hr344 hw1 hv
        have hph := own_max2 hr353 hw1 hv
        have qa6 := own_416t hu hpl.1 hph.1 (Int.le_trans hpl.2.1 hph.2.1)
        have f19 : Exa Z T14.heap b1 "com/example/ely/ely/probe/CpuQuota" := ((f13.ext E12).keep kc14)
        have f20 : Exa Z T14.heap b9 "com/example/ely/ely/probe/CpuQuota" := ((p10_0.ext E12).keep kc14)
        refine g_new X17 hx hZ hown (hw _ (List.mem_of_getElem? (i := 3) rfl)) (hw _ (List.mem_of_getElem? (i := 4) rfl)) (hw _ (List.mem_of_getElem? (i := 5) rfl)) eh17 (hb hby at_358) rfl (by decide) (by decide) fun T18 h18 b18 X18 e18 q18 E18 A18 D18 => ?_
        have ne_b1_b18 : b1 ≠ b18 := own_ne f19.lt q18
        have ne_b12_b18 : b12 ≠ b18 := own_ne p14_0.lt q18
        have ne_b9_b18 : b9 ≠ b18 := own_ne f20.lt q18
        have g_b18 : n0 ≤ b18 := Nat.le_trans Z14 (Nat.le_of_eq q18.symm)
        have Z18 : n0 ≤ h18.size := Nat.le_trans Z14 E18.1
        have F18_quotaMicros : Fld Z h18 b18 "com/example/ely/ely/probe/CpuQuota" "quotaMicros" "J" (.long (0 : Int64)) := D18 (Or.inr (hw _ (List.mem_of_getElem? (i := 13) rfl))) (ty := .long) (by decide)
        have F18_periodMicros : Fld Z h18 b18 "com/example/ely/ely/probe/CpuQuota" "periodMicros" "J" (.long (0 : Int64)) := D18 (Or.inr (hw _ (List.mem_of_getElem? (i := 15) rfl))) (ty := .long) (by decide)
        refine g_dup X18 hx (hb hby at_361) rfl rfl ?_
        refine g_lload X18 hx (hb hby at_362) rfl rfl ?_
        refine g_lload X18 hx (hb hby at_364) rfl rfl ?_
        refine g_special X18 hx hZ hown rfl (hw _ (List.mem_of_getElem? (i := 6) rfl)) (hw _ (List.mem_of_getElem? (i := 7) rfl)) (hw _ (List.mem_of_getElem? (i := 5) rfl)) (hw _ (List.mem_of_getElem? (i := 8) rfl)) (by decide) (a := b18) (rm_cqini l Z a0 hw b18 r230 r344 h18 n0 Z18 F18_quotaMicros F18_periodMicros A18 g_b18 (own_pos416 (Int.lt_of_lt_of_le Int.zero_lt_one hu)) (own_pos416 (Int.lt_of_lt_of_le Int.zero_lt_one hpl.1))) (by rw [hml]; rfl) e18 [(.long r230), (.long r344)] rfl rfl (W := 1) (Nat.le_of_eq rfl) (by decide) (by decide) (by decide) (by decide) (lenOf pd_0 rfl) (hb hby at_366) rfl fun v21 T21 L21 X21 hQ21 => ?_
        obtain ⟨rfl, Nq21, kc21, p21_0, p21_1, p21_2⟩ := hQ21
        have N21 := Fr.app N17 Nq21
        have Z21 : n0 ≤ T21.heap.size := Nat.le_trans Z18 kc21.1
        show Ga _ _ _ _ _ _ _ _ _ _ _ [(.ref b18)]
        refine g_virtual X21 hx hZ hown (hw _ (List.mem_of_getElem? (i := 16) rfl)) (hw _ (List.mem_of_getElem? (i := 17) rfl)) (notFace_of_selects (args := #[]) (mvT hZ (hw _ (List.mem_of_getElem? (i := 19) rfl)))) (hw _ (List.mem_of_getElem? (i := 19) rfl)) (hw _ (List.mem_of_getElem? (i := 18) rfl)) (hw _ (List.mem_of_getElem? (i := 5) rfl)) (hw _ (List.mem_of_getElem? (i := 20) rfl)) (by decide) (a := b18) p21_0 (rm_cpus l Z a0 hw b18 r230 r344 T21.heap n0 Z21 p21_1 p21_2 qa6.1) (by rw [hml]; rfl) rfl [] rfl rfl (W := 0) (Nat.le_of_eq rfl) (by decide) (by decide) (by decide) (by decide) (lenOf pd_1 rfl) (hb hby at_369) rfl fun v22 T22 L22 X22 hQ22 => ?_
        obtain ⟨rfl, Nq22, eh22⟩ := hQ22
        have N22 := Fr.app N21 Nq22
        show Ga _ _ _ _ _ _ _ _ _ _ _ [(.double (FP.ddiv (FP.l2d r230) (FP.l2d r344)))]
        refine g_dstore X22 hx (Ls' := #[.val (.long p0), .second, .val (.long p1), .second, .val (.long p2), .second, .val (.long p3), .second, .val (.long p4), .second, .val (.long p5), .second, .val (.long v6), .second, .val (.long (1 : Int64)), .second, .val (.long v24), .second, .val (.long v51), .second, .val (.double (FP.ddiv (FP.l2d v51) (FP.l2d v6))), .second, .val (.double (FP.l2d (1 : Int64))), .second, .val (.double (FP.dadd (FP.l2d (1 : Int64)) 4602678819172646912)), .second, .val (.int (1 : Int32)), .val (.int (1 : Int32)), .val (.int (1 : Int32)), .val (.int (1 : Int32)), .val (.long r230), .second, .val (.long r242), .second, .val (.long r254), .second, .val (.long r263), .second, .val (.long r272), .second, .val (.double (FP.ddiv (FP.l2d r263) (FP.l2d r254))), .second, .val (.double (FP.ddiv (FP.l2d r272) (FP.l2d r254))), .second, .val (.int (1 : Int32)), .val (.long r344), .second, .val (.long r353), .second, .val (.double (FP.ddiv (FP.l2d r230) (FP.l2d r344))), .second, .unset, .unset, .unset]) (hb hby at_372) rfl rfl ?_
        have f24 : Exa Z T21.heap b1 "com/example/ely/ely/probe/CpuQuota" := ((f19.ext E18).keep kc21)
        have f25 : Exa Z T21.heap b12 "com/example/ely/ely/probe/CpuQuota" := ((p14_0.ext E18).keep kc21)
        have f26 : Exa Z T21.heap b9 "com/example/ely/ely/probe/CpuQuota" := ((f20.ext E18).keep kc21)
        refine g_new X22 hx hZ hown (hw _ (List.mem_of_getElem? (i := 3) rfl)) (hw _ (List.mem_of_getElem? (i := 4) rfl)) (hw _ (List.mem_of_getElem? (i := 5) rfl)) eh22 (hb hby at_374) rfl (by decide) (by decide) fun T23 h23 b23 X23 e23 q23 E23 A23 D23 => ?_
        have ne_b1_b23 : b1 ≠ b23 := own_ne f24.lt q23
        have ne_b12_b23 : b12 ≠ b23 := own_ne f25.lt q23
        have ne_b18_b23 : b18 ≠ b23 := own_ne p21_0.lt q23
        have ne_b9_b23 : b9 ≠ b23 := own_ne f26.lt q23
        have g_b23 : n0 ≤ b23 := Nat.le_trans Z21 (Nat.le_of_eq q23.symm)
        have Z23 : n0 ≤ h23.size := Nat.le_trans Z21 E23.1
        have F23_quotaMicros : Fld Z h23 b23 "com/example/ely/ely/probe/CpuQuota" "quotaMicros" "J" (.long (0 : Int64)) := D23 (Or.inr (hw _ (List.mem_of_getElem? (i := 13) rfl))) (ty := .long) (by decide)
        have F23_periodMicros : Fld Z h23 b23 "com/example/ely/ely/probe/CpuQuota" "periodMicros" "J" (.long (0 : Int64)) := D23 (Or.inr (hw _ (List.mem_of_getElem? (i := 15) rfl))) (ty := .long) (by decide)
        refine g_dup X23 hx (hb hby at_377) rfl rfl ?_
        refine g_lload X23 hx (hb hby at_378) rfl rfl ?_
        refine g_lload X23 hx (hb hby at_380) rfl rfl ?_
        refine g_special X23 hx hZ hown rfl (hw _ (List.mem_of_getElem? (i := 6) rfl)) (hw _ (List.mem_of_getElem? (i := 7) rfl)) (hw _ (List.mem_of_getElem? (i := 5) rfl)) (hw _ (List.mem_of_getElem? (i := 8) rfl)) (by decide) (a := b23) (rm_cqini l Z a0 hw b23 r230 r353 h23 n0 Z23 F23_quotaMicros F23_periodMicros A23 g_b23 (own_pos416 (Int.lt_of_lt_of_le Int.zero_lt_one hu)) (own_pos416 (Int.lt_of_lt_of_le Int.zero_lt_one hph.1))) (by rw [hml]; rfl) e23 [(.long r230), (.long r353)] rfl rfl (W := 1) (Nat.le_of_eq rfl) (by decide) (by decide) (by decide) (by decide) (lenOf pd_0 rfl) (hb hby at_382) rfl fun v27 T27 L27 X27 hQ27 => ?_
        obtain ⟨rfl, Nq27, kc27, p27_0, p27_1, p27_2⟩ := hQ27
        have N27 := Fr.app N22 Nq27
        have Z27 : n0 ≤ T27.heap.size := Nat.le_trans Z23 kc27.1
        show Ga _ _ _ _ _ _ _ _ _ _ _ [(.ref b23)]
        refine g_virtual X27 hx hZ hown (hw _ (List.mem_of_getElem? (i := 16) rfl)) (hw _ (List.mem_of_getElem? (i := 17) rfl)) (notFace_of_selects (args := #[]) (mvT hZ (hw _ (List.mem_of_getElem? (i := 19) rfl)))) (hw _ (List.mem_of_getElem? (i := 19) rfl)) (hw _ (List.mem_of_getElem? (i := 18) rfl)) (hw _ (List.mem_of_getElem? (i := 5) rfl)) (hw _ (List.mem_of_getElem? (i := 20) rfl)) (by decide) (a := b23) p27_0 (rm_cpus l Z a0 hw b23 r230 r353 T27.heap n0 Z27 p27_1 p27_2 qa6.2.1) (by rw [hml]; rfl) rfl [] rfl rfl (W := 0) (Nat.le_of_eq rfl) (by decide) (by decide) (by decide) (by decide) (lenOf pd_1 rfl) (hb hby at_385) rfl fun v28 T28 L28 X28 hQ28 => ?_
        obtain ⟨rfl, Nq28, eh28⟩ := hQ28
        have N28 := Fr.app N27 Nq28
        show Ga _ _ _ _ _ _ _ _ _ _ _ [(.double (FP.ddiv (FP.l2d r230) (FP.l2d r353)))]
        refine g_dstore X28 hx (Ls' := #[.val (.long p0), .second, .val (.long p1), .second, .val (.long p2), .second, .val (.long p3), .second, .val (.long p4), .second, .val (.long p5), .second, .val (.long v6), .second, .val (.long (1 : Int64)), .second, .val (.long v24), .second, .val (.long v51), .second, .val (.double (FP.ddiv (FP.l2d v51) (FP.l2d v6))), .second, .val (.double (FP.l2d (1 : Int64))), .second, .val (.double (FP.dadd (FP.l2d (1 : Int64)) 4602678819172646912)), .second, .val (.int (1 : Int32)), .val (.int (1 : Int32)), .val (.int (1 : Int32)), .val (.int (1 : Int32)), .val (.long r230), .second, .val (.long r242), .second, .val (.long r254), .second, .val (.long r263), .second, .val (.long r272), .second, .val (.double (FP.ddiv (FP.l2d r263) (FP.l2d r254))), .second, .val (.double (FP.ddiv (FP.l2d r272) (FP.l2d r254))), .second, .val (.int (1 : Int32)), .val (.long r344), .second, .val (.long r353), .second, .val (.double (FP.ddiv (FP.l2d r230) (FP.l2d r344))), .second, .val (.double (FP.ddiv (FP.l2d r230) (FP.l2d r353))), .second, .unset]) (hb hby at_388) rfl rfl ?_
        refine g_dload X28 hx (hb hby at_390) rfl rfl ?_
        refine g_dconst0 X28 hx (hb hby at_392) rfl  ?_
        refine g_dcmp X28 hx (hb hby at_393) rfl  ?_
        have hc394 : (0 : Int32) < (cmpValue (FP.dcmp (FP.ddiv (FP.l2d r230) (FP.l2d r353)) FP.dconst0) .l) := qa6.2.2.1
        refine g_ifN X28 hx (hb hby at_394) rfl (XT.i0_le_f hc394) ?_
        refine g_dload X28 hx (hb hby at_397) rfl rfl ?_
        refine g_dload X28 hx (hb hby at_399) rfl rfl ?_
        refine g_dcmp X28 hx (hb hby at_401) rfl  ?_
        have hc402 : ¬ (0 : Int32) < (cmpValue (FP.dcmp (FP.ddiv (FP.l2d r230) (FP.l2d r353)) (FP.ddiv (FP.l2d r230) (FP.l2d r344))) .g) := qa6.2.2.2
        refine g_ifN X28 hx (hb hby at_402) rfl (XT.i0_gt_f hc402) ?_
        refine g_iconst X28 hx (r := (1 : Int32)) (hb hby at_405) rfl rfl ?_
        refine g_goto X28 hx (q := 410) (hb hby at_406) (by decide) (by decide) ?_
        refine g_istore X28 hx (Ls' := #[.val (.long p0), .second, .val (.long p1), .second, .val (.long p2), .second, .val (.long p3), .second, .val (.long p4), .second, .val (.long p5), .second, .val (.long v6), .second, .val (.long (1 : Int64)), .second, .val (.long v24), .second, .val (.long v51), .second, .val (.double (FP.ddiv (FP.l2d v51) (FP.l2d v6))), .second, .val (.double (FP.l2d (1 : Int64))), .second, .val (.double (FP.dadd (FP.l2d (1 : Int64)) 4602678819172646912)), .second, .val (.int (1 : Int32)), .val (.int (1 : Int32)), .val (.int (1 : Int32)), .val (.int (1 : Int32)), .val (.long r230), .second, .val (.long r242), .second, .val (.long r254), .second, .val (.long r263), .second, .val (.long r272), .second, .val (.double (FP.ddiv (FP.l2d r263) (FP.l2d r254))), .second, .val (.double (FP.ddiv (FP.l2d r272) (FP.l2d r254))), .second, .val (.int (1 : Int32)), .val (.long r344), .second, .val (.long r353), .second, .val (.double (FP.ddiv (FP.l2d r230) (FP.l2d r344))), .second, .val (.double (FP.ddiv (FP.l2d r230) (FP.l2d r353))), .second, .val (.int (1 : Int32))]) (hb hby at_410) rfl rfl ?_
        refine g_iload X28 hx (hb hby at_412) rfl rfl ?_
        refine g_ifN X28 hx (hb hby at_414) rfl (XT.i0_eq_f (by decide : ¬ (1 : Int32) = (0 : Int32))) ?_
        refine g_iload X28 hx (hb hby at_417) rfl rfl ?_
        refine g_ifN X28 hx (hb hby at_419) rfl (XT.i0_eq_f (by decide : ¬ (1 : Int32) = (0 : Int32))) ?_
        refine g_iload X28 hx (hb hby at_422) rfl rfl ?_
        refine g_ifN X28 hx (hb hby at_424) rfl (XT.i0_eq_f (by decide : ¬ (1 : Int32) = (0 : Int32))) ?_
        refine g_iload X28 hx (hb hby at_427) rfl rfl ?_
        refine g_ifN X28 hx (hb hby at_429) rfl (XT.i0_eq_f (by decide : ¬ (1 : Int32) = (0 : Int32))) ?_
        refine g_iload X28 hx (hb hby at_432) rfl rfl ?_
        refine g_ifN X28 hx (hb hby at_434) rfl (XT.i0_eq_f (by decide : ¬ (1 : Int32) = (0 : Int32))) ?_
        refine g_iload X28 hx (hb hby at_437) rfl rfl ?_
        refine g_ifN X28 hx (hb hby at_439) rfl (XT.i0_eq_f (by decide : ¬ (1 : Int32) = (0 : Int32))) ?_
        refine g_iconst X28 hx (r := (1 : Int32)) (hb hby at_442) rfl rfl ?_
        refine g_goto X28 hx (q := 447) (hb hby at_443) (by decide) (by decide) ?_
        exact g_retN X28 hx (t := .boolean) (r := (1 : Int32)) hret (by simp) hlk (hb hby at_447) rfl (by decide) (by decide) (by rw [eh28]; exact ⟨rfl, N28⟩)
      refine g_dload X3 hx (hb hby at_83) rfl rfl ?_
      refine g_dload X3 hx (hb hby at_85) rfl rfl ?_
      refine g_dcmp X3 hx (hb hby at_87) rfl  ?_
      have hc88 : ¬ (0 : Int32) < (cmpValue (FP.dcmp (FP.l2d (1 : Int64)) (FP.ddiv (FP.l2d v51) (FP.l2d v6))) .g) := qa4.2.2.2.2.1
      refine g_ifN X3 hx (hb hby at_88) rfl (XT.i0_gt_f hc88) ?_
      refine g_dload X3 hx (hb hby at_91) rfl rfl ?_
      refine g_dload X3 hx (hb hby at_93) rfl rfl ?_
      refine g_dconst1 X3 hx (hb hby at_95) rfl  ?_
      refine g_dadd X3 hx (hb hby at_96) rfl qa4.2.2.2.1 ?_
      refine g_dcmp X3 hx (hb hby at_97) rfl  ?_
      have hc98 : (cmpValue (FP.dcmp (FP.ddiv (FP.l2d v51) (FP.l2d v6)) (FP.dadd (FP.l2d (1 : Int64)) FP.dconst1)) .g) < (0 : Int32) := qa4.2.2.2.2.2.1
      refine g_ifN X3 hx (hb hby at_98) rfl (XT.i0_ge_f hc98) ?_
      refine g_iconst X3 hx (r := (1 : Int32)) (hb hby at_101) rfl rfl ?_
      refine g_goto X3 hx (q := 106) (hb hby at_102) (by decide) (by decide) ?_
      refine g_istore X3 hx (Ls' := #[.val (.long p0), .second, .val (.long p1), .second, .val (.long p2), .second, .val (.long p3), .second, .val (.long p4), .second, .val (.long p5), .second, .val (.long v6), .second, .val (.long (1 : Int64)), .second, .val (.long v24), .second, .val (.long v51), .second, .val (.double (FP.ddiv (FP.l2d v51) (FP.l2d v6))), .second, .val (.double (FP.l2d (1 : Int64))), .second, .val (.double (FP.dadd (FP.l2d (1 : Int64)) 4602678819172646912)), .second, .val (.int (1 : Int32)), .unset, .unset, .unset, .unset, .unset, .unset, .unset, .unset, .unset, .unset, .unset, .unset, .unset, .unset, .unset, .unset, .unset, .unset, .unset, .unset, .unset, .unset, .unset, .unset, .unset, .unset, .unset]) (hb hby at_106) rfl rfl ?_
      refine g_lload X3 hx (hb hby at_108) rfl rfl ?_
      refine g_lconst X3 hx (r := (0 : Int64)) (hb hby at_110) rfl rfl ?_
      refine g_lcmp X3 hx (hb hby at_111) rfl  ?_
      have hc112 : v24 = (0 : Int64) := hc38
      refine g_ifN X3 hx (hb hby at_112) rfl (XT.ll_ne_f hc112) ?_
      refine g_iconst X3 hx (r := (1 : Int32)) (hb hby at_115) rfl rfl ?_
      refine g_goto X3 hx (q := 120) (hb hby at_116) (by decide) (by decide) ?_
      refine g_dload X3 hx (hb hby at_120) rfl rfl ?_
      refine g_dload X3 hx (hb hby at_122) rfl rfl ?_
      refine g_dcmp X3 hx (hb hby at_124) rfl  ?_
      have hc125 : (cmpValue (FP.dcmp (FP.ddiv (FP.l2d v51) (FP.l2d v6)) (FP.l2d (1 : Int64))) .l) = (0 : Int32) := qa4.2.2.2.2.2.2.1 (by rw [hc38]; rfl)
      refine g_ifN X3 hx (hb hby at_125) rfl (XT.i0_ne_f hc125) ?_
      refine g_iconst X3 hx (r := (1 : Int32)) (hb hby at_128) rfl rfl ?_
      refine g_goto X3 hx (q := 133) (hb hby at_129) (by decide) (by decide) ?_
      refine g_icmpN X3 hx (hb hby at_133) rfl (XT.ii_ne_f (by decide : (1 : Int32) = (1 : Int32))) ?_
      refine g_iconst X3 hx (r := (1 : Int32)) (hb hby at_136) rfl rfl ?_
      refine g_goto X3 hx (q := 141) (hb hby at_137) (by decide) (by decide) ?_
      refine g_istore X3 hx (Ls' := #[.val (.long p0), .second, .val (.long p1), .second, .val (.long p2), .second, .val (.long p3), .second, .val (.long p4), .second, .val (.long p5), .second, .val (.long v6), .second, .val (.long (1 : Int64)), .second, .val (.long v24), .second, .val (.long v51), .second, .val (.double (FP.ddiv (FP.l2d v51) (FP.l2d v6))), .second, .val (.double (FP.l2d (1 : Int64))), .second, .val (.double (FP.dadd (FP.l2d (1 : Int64)) 4602678819172646912)), .second, .val (.int (1 : Int32)), .val (.int (1 : Int32)), .unset, .unset, .unset, .unset, .unset, .unset, .unset, .unset, .unset, .unset, .unset, .unset, .unset, .unset, .unset, .unset, .unset, .unset, .unset, .unset, .unset, .unset, .unset, .unset, .unset, .unset]) (hb hby at_141) rfl rfl ?_
      refine g_ldc2 X3 hx hZ hown (hw _ (List.mem_of_getElem? (i := 22) rfl)) (hb hby at_143) rfl ?_
      refine g_lload X3 hx (hb hby at_146) rfl rfl ?_
      refine g_lmul X3 hx (hb hby at_148) rfl rfl ?_
      refine g_lload X3 hx (hb hby at_149) rfl rfl ?_
      refine g_lcmp X3 hx (hb hby at_151) rfl  ?_
      by_cases hc152 : ((2 : Int64) * v24) < v6
      · skip
        refine g_ifN X3 hx (hb hby at_152) rfl (XT.ll_ge_f hc152) ?_
        refine g_iconst X3 hx (r := (1 : Int32)) (hb hby at_155) rfl rfl ?_
        refine g_goto X3 hx (q := 160) (hb hby at_156) (by decide) (by decide) ?_
        refine g_dload X3 hx (hb hby at_160) rfl rfl ?_
        refine g_dload X3 hx (hb hby at_162) rfl rfl ?_
        refine g_dcmp X3 hx (hb hby at_164) rfl  ?_
        have hc165 : (cmpValue (FP.dcmp (FP.ddiv (FP.l2d v51) (FP.l2d v6)) (FP.dadd (FP.l2d (1 : Int64)) 4602678819172646912)) .g) < (0 : Int32) := qa4.2.2.2.2.2.2.2.2.1 (by rw [← h2r]; exact own_lt64.mp hc152)
        refine g_ifN X3 hx (hb hby at_165) rfl (XT.i0_ge_f hc165) ?_
        refine g_iconst X3 hx (r := (1 : Int32)) (hb hby at_168) rfl rfl ?_
        refine g_goto X3 hx (q := 173) (hb hby at_169) (by decide) (by decide) ?_
        refine g_icmpN X3 hx (hb hby at_173) rfl (XT.ii_ne_f (by decide : (1 : Int32) = (1 : Int32))) ?_
        refine g_iconst X3 hx (r := (1 : Int32)) (hb hby at_176) rfl rfl ?_
        refine g_goto X3 hx (q := 181) (hb hby at_177) (by decide) (by decide) ?_
        refine g_istore X3 hx (Ls' := #[.val (.long p0), .second, .val (.long p1), .second, .val (.long p2), .second, .val (.long p3), .second, .val (.long p4), .second, .val (.long p5), .second, .val (.long v6), .second, .val (.long (1 : Int64)), .second, .val (.long v24), .second, .val (.long v51), .second, .val (.double (FP.ddiv (FP.l2d v51) (FP.l2d v6))), .second, .val (.double (FP.l2d (1 : Int64))), .second, .val (.double (FP.dadd (FP.l2d (1 : Int64)) 4602678819172646912)), .second, .val (.int (1 : Int32)), .val (.int (1 : Int32)), .val (.int (1 : Int32)), .unset, .unset, .unset, .unset, .unset, .unset, .unset, .unset, .unset, .unset, .unset, .unset, .unset, .unset, .unset, .unset, .unset, .unset, .unset, .unset, .unset, .unset, .unset, .unset, .unset]) (hb hby at_181) rfl rfl ?_
        refine g_ldc2 X3 hx hZ hown (hw _ (List.mem_of_getElem? (i := 22) rfl)) (hb hby at_183) rfl ?_
        refine g_lload X3 hx (hb hby at_186) rfl rfl ?_
        refine g_lmul X3 hx (hb hby at_188) rfl rfl ?_
        refine g_lload X3 hx (hb hby at_189) rfl rfl ?_
        refine g_lcmp X3 hx (hb hby at_191) rfl  ?_
        by_cases hc192 : ((2 : Int64) * v24) = v6
        · skip
          refine g_ifN X3 hx (hb hby at_192) rfl (XT.ll_ne_f hc192) ?_
          refine g_iconst X3 hx (r := (1 : Int32)) (hb hby at_195) rfl rfl ?_
          refine g_goto X3 hx (q := 200) (hb hby at_196) (by decide) (by decide) ?_
          refine g_dload X3 hx (hb hby at_200) rfl rfl ?_
          refine g_dload X3 hx (hb hby at_202) rfl rfl ?_
          refine g_dcmp X3 hx (hb hby at_204) rfl  ?_
          have hc205 : (cmpValue (FP.dcmp (FP.ddiv (FP.l2d v51) (FP.l2d v6)) (FP.dadd (FP.l2d (1 : Int64)) 4602678819172646912)) .l) = (0 : Int32) := qa4.2.2.2.2.2.2.2.2.2.2.1 (by rw [← h2r]; exact own_eq64.mp hc192)
          refine g_ifN X3 hx (hb hby at_205) rfl (XT.i0_ne_f hc205) ?_
          refine g_iconst X3 hx (r := (1 : Int32)) (hb hby at_208) rfl rfl ?_
          refine g_goto X3 hx (q := 213) (hb hby at_209) (by decide) (by decide) ?_
          refine g_icmpN X3 hx (hb hby at_213) rfl (XT.ii_ne_f (by decide : (1 : Int32) = (1 : Int32))) ?_
          refine g_iconst X3 hx (r := (1 : Int32)) (hb hby at_216) rfl rfl ?_
          refine g_goto X3 hx (q := 221) (hb hby at_217) (by decide) (by decide) ?_
          refine g_istore X3 hx (Ls' := #[.val (.long p0), .second, .val (.long p1), .second, .val (.long p2), .second, .val (.long p3), .second, .val (.long p4), .second, .val (.long p5), .second, .val (.long v6), .second, .val (.long (1 : Int64)), .second, .val (.long v24), .second, .val (.long v51), .second, .val (.double (FP.ddiv (FP.l2d v51) (FP.l2d v6))), .second, .val (.double (FP.l2d (1 : Int64))), .second, .val (.double (FP.dadd (FP.l2d (1 : Int64)) 4602678819172646912)), .second, .val (.int (1 : Int32)), .val (.int (1 : Int32)), .val (.int (1 : Int32)), .val (.int (1 : Int32)), .unset, .unset, .unset, .unset, .unset, .unset, .unset, .unset, .unset, .unset, .unset, .unset, .unset, .unset, .unset, .unset, .unset, .unset, .unset, .unset, .unset, .unset, .unset, .unset]) (hb hby at_221) rfl rfl ?_
          exact J223
        · skip
          refine g_ifY X3 hx (q := 199) (hb hby at_192) (XT.ll_ne_t hc192) (by decide) (by decide) ?_
          refine g_iconst X3 hx (r := (0 : Int32)) (hb hby at_199) rfl rfl ?_
          refine g_dload X3 hx (hb hby at_200) rfl rfl ?_
          refine g_dload X3 hx (hb hby at_202) rfl rfl ?_
          refine g_dcmp X3 hx (hb hby at_204) rfl  ?_
          have hc205 : ¬ (cmpValue (FP.dcmp (FP.ddiv (FP.l2d v51) (FP.l2d v6)) (FP.dadd (FP.l2d (1 : Int64)) 4602678819172646912)) .l) = (0 : Int32) := qa4.2.2.2.2.2.2.2.2.2.2.2 (by rw [← h2r]; exact fun z => hc192 (own_eq64.mpr z))
          refine g_ifY X3 hx (q := 212) (hb hby at_205) (XT.i0_ne_t hc205) (by decide) (by decide) ?_
          refine g_iconst X3 hx (r := (0 : Int32)) (hb hby at_212) rfl rfl ?_
          refine g_icmpN X3 hx (hb hby at_213) rfl (XT.ii_ne_f (by decide : (0 : Int32) = (0 : Int32))) ?_
          refine g_iconst X3 hx (r := (1 : Int32)) (hb hby at_216) rfl rfl ?_
          refine g_goto X3 hx (q := 221) (hb hby at_217) (by decide) (by decide) ?_
          refine g_istore X3 hx (Ls' := #[.val (.long p0), .second, .val (.long p1), .second, .val (.long p2), .second, .val (.long p3), .second, .val (.long p4), .second, .val (.long p5), .second, .val (.long v6), .second, .val (.long (1 : Int64)), .second, .val (.long v24), .second, .val (.long v51), .second, .val (.double (FP.ddiv (FP.l2d v51) (FP.l2d v6))), .second, .val (.double (FP.l2d (1 : Int64))), .second, .val (.double (FP.dadd (FP.l2d (1 : Int64)) 4602678819172646912)), .second, .val (.int (1 : Int32)), .val (.int (1 : Int32)), .val (.int (1 : Int32)), .val (.int (1 : Int32)), .unset, .unset, .unset, .unset, .unset, .unset, .unset, .unset, .unset, .unset, .unset, .unset, .unset, .unset, .unset, .unset, .unset, .unset, .unset, .unset, .unset, .unset, .unset, .unset]) (hb hby at_221) rfl rfl ?_
          exact J223
      · skip
        refine g_ifY X3 hx (q := 159) (hb hby at_152) (XT.ll_ge_t hc152) (by decide) (by decide) ?_
        refine g_iconst X3 hx (r := (0 : Int32)) (hb hby at_159) rfl rfl ?_
        refine g_dload X3 hx (hb hby at_160) rfl rfl ?_
        refine g_dload X3 hx (hb hby at_162) rfl rfl ?_
        refine g_dcmp X3 hx (hb hby at_164) rfl  ?_
        have hc165 : ¬ (cmpValue (FP.dcmp (FP.ddiv (FP.l2d v51) (FP.l2d v6)) (FP.dadd (FP.l2d (1 : Int64)) 4602678819172646912)) .g) < (0 : Int32) := qa4.2.2.2.2.2.2.2.2.2.1 (by rw [← h2r]; exact fun z => hc152 (own_lt64.mpr z))
        refine g_ifY X3 hx (q := 172) (hb hby at_165) (XT.i0_ge_t hc165) (by decide) (by decide) ?_
        refine g_iconst X3 hx (r := (0 : Int32)) (hb hby at_172) rfl rfl ?_
        refine g_icmpN X3 hx (hb hby at_173) rfl (XT.ii_ne_f (by decide : (0 : Int32) = (0 : Int32))) ?_
        refine g_iconst X3 hx (r := (1 : Int32)) (hb hby at_176) rfl rfl ?_
        refine g_goto X3 hx (q := 181) (hb hby at_177) (by decide) (by decide) ?_
        refine g_istore X3 hx (Ls' := #[.val (.long p0), .second, .val (.long p1), .second, .val (.long p2), .second, .val (.long p3), .second, .val (.long p4), .second, .val (.long p5), .second, .val (.long v6), .second, .val (.long (1 : Int64)), .second, .val (.long v24), .second, .val (.long v51), .second, .val (.double (FP.ddiv (FP.l2d v51) (FP.l2d v6))), .second, .val (.double (FP.l2d (1 : Int64))), .second, .val (.double (FP.dadd (FP.l2d (1 : Int64)) 4602678819172646912)), .second, .val (.int (1 : Int32)), .val (.int (1 : Int32)), .val (.int (1 : Int32)), .unset, .unset, .unset, .unset, .unset, .unset, .unset, .unset, .unset, .unset, .unset, .unset, .unset, .unset, .unset, .unset, .unset, .unset, .unset, .unset, .unset, .unset, .unset, .unset, .unset]) (hb hby at_181) rfl rfl ?_
        refine g_ldc2 X3 hx hZ hown (hw _ (List.mem_of_getElem? (i := 22) rfl)) (hb hby at_183) rfl ?_
        refine g_lload X3 hx (hb hby at_186) rfl rfl ?_
        refine g_lmul X3 hx (hb hby at_188) rfl rfl ?_
        refine g_lload X3 hx (hb hby at_189) rfl rfl ?_
        refine g_lcmp X3 hx (hb hby at_191) rfl  ?_
        by_cases hc192 : ((2 : Int64) * v24) = v6
        · skip
          refine g_ifN X3 hx (hb hby at_192) rfl (XT.ll_ne_f hc192) ?_
          refine g_iconst X3 hx (r := (1 : Int32)) (hb hby at_195) rfl rfl ?_
          refine g_goto X3 hx (q := 200) (hb hby at_196) (by decide) (by decide) ?_
          refine g_dload X3 hx (hb hby at_200) rfl rfl ?_
          refine g_dload X3 hx (hb hby at_202) rfl rfl ?_
          refine g_dcmp X3 hx (hb hby at_204) rfl  ?_
          have hc205 : (cmpValue (FP.dcmp (FP.ddiv (FP.l2d v51) (FP.l2d v6)) (FP.dadd (FP.l2d (1 : Int64)) 4602678819172646912)) .l) = (0 : Int32) := qa4.2.2.2.2.2.2.2.2.2.2.1 (by rw [← h2r]; exact own_eq64.mp hc192)
          refine g_ifN X3 hx (hb hby at_205) rfl (XT.i0_ne_f hc205) ?_
          refine g_iconst X3 hx (r := (1 : Int32)) (hb hby at_208) rfl rfl ?_
          refine g_goto X3 hx (q := 213) (hb hby at_209) (by decide) (by decide) ?_
          refine g_icmpN X3 hx (hb hby at_213) rfl (XT.ii_ne_f (by decide : (1 : Int32) = (1 : Int32))) ?_
          refine g_iconst X3 hx (r := (1 : Int32)) (hb hby at_216) rfl rfl ?_
          refine g_goto X3 hx (q := 221) (hb hby at_217) (by decide) (by decide) ?_
          refine g_istore X3 hx (Ls' := #[.val (.long p0), .second, .val (.long p1), .second, .val (.long p2), .second, .val (.long p3), .second, .val (.long p4), .second, .val (.long p5), .second, .val (.long v6), .second, .val (.long (1 : Int64)), .second, .val (.long v24), .second, .val (.long v51), .second, .val (.double (FP.ddiv (FP.l2d v51) (FP.l2d v6))), .second, .val (.double (FP.l2d (1 : Int64))), .second, .val (.double (FP.dadd (FP.l2d (1 : Int64)) 4602678819172646912)), .second, .val (.int (1 : Int32)), .val (.int (1 : Int32)), .val (.int (1 : Int32)), .val (.int (1 : Int32)), .unset, .unset, .unset, .unset, .unset, .unset, .unset, .unset, .unset, .unset, .unset, .unset, .unset, .unset, .unset, .unset, .unset, .unset, .unset, .unset, .unset, .unset, .unset, .unset]) (hb hby at_221) rfl rfl ?_
          exact J223
        · skip
          refine g_ifY X3 hx (q := 199) (hb hby at_192) (XT.ll_ne_t hc192) (by decide) (by decide) ?_
          refine g_iconst X3 hx (r := (0 : Int32)) (hb hby at_199) rfl rfl ?_
          refine g_dload X3 hx (hb hby at_200) rfl rfl ?_
          refine g_dload X3 hx (hb hby at_202) rfl rfl ?_
          refine g_dcmp X3 hx (hb hby at_204) rfl  ?_
          have hc205 : ¬ (cmpValue (FP.dcmp (FP.ddiv (FP.l2d v51) (FP.l2d v6)) (FP.dadd (FP.l2d (1 : Int64)) 4602678819172646912)) .l) = (0 : Int32) := qa4.2.2.2.2.2.2.2.2.2.2.2 (by rw [← h2r]; exact fun z => hc192 (own_eq64.mpr z))
          refine g_ifY X3 hx (q := 212) (hb hby at_205) (XT.i0_ne_t hc205) (by decide) (by decide) ?_
          refine g_iconst X3 hx (r := (0 : Int32)) (hb hby at_212) rfl rfl ?_
          refine g_icmpN X3 hx (hb hby at_213) rfl (XT.ii_ne_f (by decide : (0 : Int32) = (0 : Int32))) ?_
          refine g_iconst X3 hx (r := (1 : Int32)) (hb hby at_216) rfl rfl ?_
          refine g_goto X3 hx (q := 221) (hb hby at_217) (by decide) (by decide) ?_
          refine g_istore X3 hx (Ls' := #[.val (.long p0), .second, .val (.long p1), .second, .val (.long p2), .second, .val (.long p3), .second, .val (.long p4), .second, .val (.long p5), .second, .val (.long v6), .second, .val (.long (1 : Int64)), .second, .val (.long v24), .second, .val (.long v51), .second, .val (.double (FP.ddiv (FP.l2d v51) (FP.l2d v6))), .second, .val (.double (FP.l2d (1 : Int64))), .second, .val (.double (FP.dadd (FP.l2d (1 : Int64)) 4602678819172646912)), .second, .val (.int (1 : Int32)), .val (.int (1 : Int32)), .val (.int (1 : Int32)), .val (.int (1 : Int32)), .unset, .unset, .unset, .unset, .unset, .unset, .unset, .unset, .unset, .unset, .unset, .unset, .unset, .unset, .unset, .unset, .unset, .unset, .unset, .unset, .unset, .unset, .unset, .unset]) (hb hby at_221) rfl rfl ?_
          exact J223
    · skip
      refine g_ifY X0 hx (q := 44) (hb hby at_38) (XT.ll_ne_t hc38) (by decide) (by decide) ?_
      refine g_lload X0 hx (hb hby at_44) rfl rfl ?_
      refine g_lload X0 hx (hb hby at_46) rfl rfl ?_
      refine g_lmul X0 hx (hb hby at_48) rfl rfl ?_
      refine g_lload X0 hx (hb hby at_49) rfl rfl ?_
      obtain ⟨v51, hv51⟩ : ∃ r, ((v13 * v6) + v24) = r := ⟨_, rfl⟩
      refine g_ladd X0 hx (hb hby at_51) rfl hv51 ?_
      refine g_lstore X0 hx (Ls' := #[.val (.long p0), .second, .val (.long p1), .second, .val (.long p2), .second, .val (.long p3), .second, .val (.long p4), .second, .val (.long p5), .second, .val (.long v6), .second, .val (.long v13), .second, .val (.long v24), .second, .val (.long v51), .second, .unset, .unset, .unset, .unset, .unset, .unset, .unset, .unset, .unset, .unset, .unset, .unset, .unset, .unset, .unset, .unset, .unset, .unset, .unset, .unset, .unset, .unset, .unset, .unset, .unset, .unset, .unset, .unset, .unset, .unset, .unset, .unset, .unset, .unset]) (hb hby at_52) rfl rfl ?_
      have hpr := own_p416 hv6
      have hrr := own_r416 hv24 hpr.1
      have har : 0 ≤ (v13).toInt ∧ (v13).toInt ≤ 1048575 := own_a416 hv13
      have qa4 := own_416 hpr.1 hpr.2 har.1 har.2 hrr.1 hrr.2 hv51
      have hqp := own_q416 qa4.1 hpr.1 har.1 hrr.1 (Or.inr hc38)
      have hpp := own_pos416 hpr.1
      have h2r := own_2r hrr.1 hrr.2 hpr.2
      refine g_new X0 hx hZ hown (hw _ (List.mem_of_getElem? (i := 3) rfl)) (hw _ (List.mem_of_getElem? (i := 4) rfl)) (hw _ (List.mem_of_getElem? (i := 5) rfl)) e0 (hb hby at_54) rfl (by decide) (by decide) fun T29 h29 b29 X29 e29 q29 E29 A29 D29 => ?_
      have g_b29 : n0 ≤ b29 := Nat.le_trans Z0 (Nat.le_of_eq q29.symm)
      have Z29 : n0 ≤ h29.size := Nat.le_trans Z0 E29.1
      have F29_quotaMicros : Fld Z h29 b29 "com/example/ely/ely/probe/CpuQuota" "quotaMicros" "J" (.long (0 : Int64)) := D29 (Or.inr (hw _ (List.mem_of_getElem? (i := 13) rfl))) (ty := .long) (by decide)
      have F29_periodMicros : Fld Z h29 b29 "com/example/ely/ely/probe/CpuQuota" "periodMicros" "J" (.long (0 : Int64)) := D29 (Or.inr (hw _ (List.mem_of_getElem? (i := 15) rfl))) (ty := .long) (by decide)
      refine g_dup X29 hx (hb hby at_57) rfl rfl ?_
      refine g_lload X29 hx (hb hby at_58) rfl rfl ?_
      refine g_lload X29 hx (hb hby at_60) rfl rfl ?_
      refine g_special X29 hx hZ hown rfl (hw _ (List.mem_of_getElem? (i := 6) rfl)) (hw _ (List.mem_of_getElem? (i := 7) rfl)) (hw _ (List.mem_of_getElem? (i := 5) rfl)) (hw _ (List.mem_of_getElem? (i := 8) rfl)) (by decide) (a := b29) (rm_cqini l Z a0 hw b29 v51 v6 h29 n0 Z29 F29_quotaMicros F29_periodMicros A29 g_b29 hqp hpp) (by rw [hml]; rfl) e29 [(.long v51), (.long v6)] rfl rfl (W := 1) (Nat.le_of_eq rfl) (by decide) (by decide) (by decide) (by decide) (lenOf pd_0 rfl) (hb hby at_62) rfl fun v30 T30 L30 X30 hQ30 => ?_
      obtain ⟨rfl, Nq30, kc30, p30_0, p30_1, p30_2⟩ := hQ30
      have N30 := Fr.app N0 Nq30
      have Z30 : n0 ≤ T30.heap.size := Nat.le_trans Z29 kc30.1
      show Ga _ _ _ _ _ _ _ _ _ _ _ [(.ref b29)]
      refine g_virtual X30 hx hZ hown (hw _ (List.mem_of_getElem? (i := 16) rfl)) (hw _ (List.mem_of_getElem? (i := 17) rfl)) (notFace_of_selects (args := #[]) (mvT hZ (hw _ (List.mem_of_getElem? (i := 19) rfl)))) (hw _ (List.mem_of_getElem? (i := 19) rfl)) (hw _ (List.mem_of_getElem? (i := 18) rfl)) (hw _ (List.mem_of_getElem? (i := 5) rfl)) (hw _ (List.mem_of_getElem? (i := 20) rfl)) (by decide) (a := b29) p30_0 (rm_cpus l Z a0 hw b29 v51 v6 T30.heap n0 Z30 p30_1 p30_2 qa4.2.1) (by rw [hml]; rfl) rfl [] rfl rfl (W := 0) (Nat.le_of_eq rfl) (by decide) (by decide) (by decide) (by decide) (lenOf pd_1 rfl) (hb hby at_65) rfl fun v31 T31 L31 X31 hQ31 => ?_
      obtain ⟨rfl, Nq31, eh31⟩ := hQ31
      have N31 := Fr.app N30 Nq31
      show Ga _ _ _ _ _ _ _ _ _ _ _ [(.double (FP.ddiv (FP.l2d v51) (FP.l2d v6)))]
      refine g_dstore X31 hx (Ls' := #[.val (.long p0), .second, .val (.long p1), .second, .val (.long p2), .second, .val (.long p3), .second, .val (.long p4), .second, .val (.long p5), .second, .val (.long v6), .second, .val (.long v13), .second, .val (.long v24), .second, .val (.long v51), .second, .val (.double (FP.ddiv (FP.l2d v51) (FP.l2d v6))), .second, .unset, .unset, .unset, .unset, .unset, .unset, .unset, .unset, .unset, .unset, .unset, .unset, .unset, .unset, .unset, .unset, .unset, .unset, .unset, .unset, .unset, .unset, .unset, .unset, .unset, .unset, .unset, .unset, .unset, .unset, .unset, .unset]) (hb hby at_68) rfl rfl ?_
      refine g_lload X31 hx (hb hby at_70) rfl rfl ?_
      refine g_l2d X31 hx (hb hby at_72) rfl  ?_
      refine g_dstore X31 hx (Ls' := #[.val (.long p0), .second, .val (.long p1), .second, .val (.long p2), .second, .val (.long p3), .second, .val (.long p4), .second, .val (.long p5), .second, .val (.long v6), .second, .val (.long v13), .second, .val (.long v24), .second, .val (.long v51), .second, .val (.double (FP.ddiv (FP.l2d v51) (FP.l2d v6))), .second, .val (.double (FP.l2d v13)), .second, .unset, .unset, .unset, .unset, .unset, .unset, .unset, .unset, .unset, .unset, .unset, .unset, .unset, .unset, .unset, .unset, .unset, .unset, .unset, .unset, .unset, .unset, .unset, .unset, .unset, .unset, .unset, .unset, .unset, .unset]) (hb hby at_73) rfl rfl ?_
      refine g_dload X31 hx (hb hby at_75) rfl rfl ?_
      refine g_ldc2D X31 hx hZ hown (hw _ (List.mem_of_getElem? (i := 21) rfl)) (hb hby at_77) rfl ?_
      refine g_dadd X31 hx (hb hby at_80) rfl qa4.2.2.1 ?_
      refine g_dstore X31 hx (Ls' := #[.val (.long p0), .second, .val (.long p1), .second, .val (.long p2), .second, .val (.long p3), .second, .val (.long p4), .second, .val (.long p5), .second, .val (.long v6), .second, .val (.long v13), .second, .val (.long v24), .second, .val (.long v51), .second, .val (.double (FP.ddiv (FP.l2d v51) (FP.l2d v6))), .second, .val (.double (FP.l2d v13)), .second, .val (.double (FP.dadd (FP.l2d v13) 4602678819172646912)), .second, .unset, .unset, .unset, .unset, .unset, .unset, .unset, .unset, .unset, .unset, .unset, .unset, .unset, .unset, .unset, .unset, .unset, .unset, .unset, .unset, .unset, .unset, .unset, .unset, .unset, .unset, .unset, .unset]) (hb hby at_81) rfl rfl ?_
      have J223 : Ga p e below s (Q_law Z p0 p1 p2 p3 p4 p5 h0 n0) room_1.cells room_1.slots T31 m 223 #[.val (.long p0), .second, .val (.long p1), .second, .val (.long p2), .second, .val (.long p3), .second, .val (.long p4), .second, .val (.long p5), .second, .val (.long v6), .second, .val (.long v13), .second, .val (.long v24), .second, .val (.long v51), .second, .val (.double (FP.ddiv (FP.l2d v51) (FP.l2d v6))), .second, .val (.double (FP.l2d v13)), .second, .val (.double (FP.dadd (FP.l2d v13) 4602678819172646912)), .second, .val (.int (1 : Int32)), .val (.int (1 : Int32)), .val (.int (1 : Int32)), .val (.int (1 : Int32)), .unset, .unset, .unset, .unset, .unset, .unset, .unset, .unset, .unset, .unset, .unset, .unset, .unset, .unset, .unset, .unset, .unset, .unset, .unset, .unset, .unset, .unset, .unset, .unset] [] := by
        refine g_lconst X31 hx (r := (1 : Int64)) (hb hby at_223) rfl rfl ?_
        refine g_lload X31 hx (hb hby at_224) rfl rfl ?_
        refine g_ldc2 X31 hx hZ hown (hw _ (List.mem_of_getElem? (i := 2) rfl)) (hb hby at_226) rfl ?_
        refine g_land X31 hx (hb hby at_229) rfl rfl ?_
        refine g_static X31 hx hZ hown (hw _ (List.mem_of_getElem? (i := 23) rfl)) (hw _ (List.mem_of_getElem? (i := 24) rfl)) (hw _ (List.mem_of_getElem? (i := 25) rfl)) (hw _ (List.mem_of_getElem? (i := 26) rfl)) (by decide) (rm_maxJ l Z a0 hw (1 : Int64) (p3 &&& (9223372036854775807 : Int64)) T30.heap n0 Z30) (by rw [hml]; rfl) eh31 [(.long (1 : Int64)), (.long (p3 &&& (9223372036854775807 : Int64)))] rfl rfl (W := 0) (Nat.le_of_eq rfl) (by decide) (by decide) (by decide) (by decide) (lenOf pd_2 rfl) (hb hby at_230) rfl fun v32 T32 L32 X32 hQ32 => ?_
        obtain ⟨rfl, Nq32, eh32⟩ := hQ32
        have N32 := Fr.app N31 Nq32
        show Ga _ _ _ _ _ _ _ _ _ _ _ [(.long (if (1 : Int64) < (p3 &&& (9223372036854775807 : Int64)) then (p3 &&& (9223372036854775807 : Int64)) else (1 : Int64)))]
        generalize hr230 : (if (1 : Int64) < (p3 &&& (9223372036854775807 : Int64)) then (p3 &&& (9223372036854775807 : Int64)) else (1 : Int64)) = r230
        refine g_lstore X32 hx (Ls' := #[.val (.long p0), .second, .val (.long p1), .second, .val (.long p2), .second, .val (.long p3), .second, .val (.long p4), .second, .val (.long p5), .second, .val (.long v6), .second, .val (.long v13), .second, .val (.long v24), .second, .val (.long v51), .second, .val (.double (FP.ddiv (FP.l2d v51) (FP.l2d v6))), .second, .val (.double (FP.l2d v13)), .second, .val (.double (FP.dadd (FP.l2d v13) 4602678819172646912)), .second, .val (.int (1 : Int32)), .val (.int (1 : Int32)), .val (.int (1 : Int32)), .val (.int (1 : Int32)), .val (.long r230), .second, .unset, .unset, .unset, .unset, .unset, .unset, .unset, .unset, .unset, .unset, .unset, .unset, .unset, .unset, .unset, .unset, .unset, .unset, .unset, .unset, .unset, .unset]) (hb hby at_233) rfl rfl ?_
        refine g_lconst X32 hx (r := (1 : Int64)) (hb hby at_235) rfl rfl ?_
        refine g_lload X32 hx (hb hby at_236) rfl rfl ?_
        refine g_ldc2 X32 hx hZ hown (hw _ (List.mem_of_getElem? (i := 2) rfl)) (hb hby at_238) rfl ?_
        refine g_land X32 hx (hb hby at_241) rfl rfl ?_
        refine g_static X32 hx hZ hown (hw _ (List.mem_of_getElem? (i := 23) rfl)) (hw _ (List.mem_of_getElem? (i := 24) rfl)) (hw _ (List.mem_of_getElem? (i := 25) rfl)) (hw _ (List.mem_of_getElem? (i := 26) rfl)) (by decide) (rm_maxJ l Z a0 hw (1 : Int64) (p4 &&& (9223372036854775807 : Int64)) T30.heap n0 Z30) (by rw [hml]; rfl) eh32 [(.long (1 : Int64)), (.long (p4 &&& (9223372036854775807 : Int64)))] rfl rfl (W := 0) (Nat.le_of_eq rfl) (by decide) (by decide) (by decide) (by decide) (lenOf pd_2 rfl) (hb hby at_242) rfl fun v33 T33 L33 X33 hQ33 => ?_
        obtain ⟨rfl, Nq33, eh33⟩ := hQ33
        have N33 := Fr.app N32 Nq33
        show Ga _ _ _ _ _ _ _ _ _ _ _ [(.long (if (1 : Int64) < (p4 &&& (9223372036854775807 : Int64)) then (p4 &&& (9223372036854775807 : Int64)) else (1 : Int64)))]
        generalize hr242 : (if (1 : Int64) < (p4 &&& (9223372036854775807 : Int64)) then (p4 &&& (9223372036854775807 : Int64)) else (1 : Int64)) = r242
        refine g_lstore X33 hx (Ls' := #[.val (.long p0), .second, .val (.long p1), .second, .val (.long p2), .second, .val (.long p3), .second, .val (.long p4), .second, .val (.long p5), .second, .val (.long v6), .second, .val (.long v13), .second, .val (.long v24), .second, .val (.long v51), .second, .val (.double (FP.ddiv (FP.l2d v51) (FP.l2d v6))), .second, .val (.double (FP.l2d v13)), .second, .val (.double (FP.dadd (FP.l2d v13) 4602678819172646912)), .second, .val (.int (1 : Int32)), .val (.int (1 : Int32)), .val (.int (1 : Int32)), .val (.int (1 : Int32)), .val (.long r230), .second, .val (.long r242), .second, .unset, .unset, .unset, .unset, .unset, .unset, .unset, .unset, .unset, .unset, .unset, .unset, .unset, .unset, .unset, .unset, .unset, .unset, .unset, .unset]) (hb hby at_245) rfl rfl ?_
        refine g_lconst X33 hx (r := (1 : Int64)) (hb hby at_247) rfl rfl ?_
        refine g_lload X33 hx (hb hby at_248) rfl rfl ?_
        refine g_ldc2 X33 hx hZ hown (hw _ (List.mem_of_getElem? (i := 2) rfl)) (hb hby at_250) rfl ?_
        refine g_land X33 hx (hb hby at_253) rfl rfl ?_
        refine g_static X33 hx hZ hown (hw _ (List.mem_of_getElem? (i := 23) rfl)) (hw _ (List.mem_of_getElem? (i := 24) rfl)) (hw _ (List.mem_of_getElem? (i := 25) rfl)) (hw _ (List.mem_of_getElem? (i := 26) rfl)) (by decide) (rm_maxJ l Z a0 hw (1 : Int64) (p5 &&& (9223372036854775807 : Int64)) T30.heap n0 Z30) (by rw [hml]; rfl) eh33 [(.long (1 : Int64)), (.long (p5 &&& (9223372036854775807 : Int64)))] rfl rfl (W := 0) (Nat.le_of_eq rfl) (by decide) (by decide) (by decide) (by decide) (lenOf pd_2 rfl) (hb hby at_254) rfl fun v34 T34 L34 X34 hQ34 => ?_
        obtain ⟨rfl, Nq34, eh34⟩ := hQ34
        have N34 := Fr.app N33 Nq34
        show Ga _ _ _ _ _ _ _ _ _ _ _ [(.long (if (1 : Int64) < (p5 &&& (9223372036854775807 : Int64)) then (p5 &&& (9223372036854775807 : Int64)) else (1 : Int64)))]
        generalize hr254 : (if (1 : Int64) < (p5 &&& (9223372036854775807 : Int64)) then (p5 &&& (9223372036854775807 : Int64)) else (1 : Int64)) = r254
        refine g_lstore X34 hx (Ls' := #[.val (.long p0), .second, .val (.long p1), .second, .val (.long p2), .second, .val (.long p3), .second, .val (.long p4), .second, .val (.long p5), .second, .val (.long v6), .second, .val (.long v13), .second, .val (.long v24), .second, .val (.long v51), .second, .val (.double (FP.ddiv (FP.l2d v51) (FP.l2d v6))), .second, .val (.double (FP.l2d v13)), .second, .val (.double (FP.dadd (FP.l2d v13) 4602678819172646912)), .second, .val (.int (1 : Int32)), .val (.int (1 : Int32)), .val (.int (1 : Int32)), .val (.int (1 : Int32)), .val (.long r230), .second, .val (.long r242), .second, .val (.long r254), .second, .unset, .unset, .unset, .unset, .unset, .unset, .unset, .unset, .unset, .unset, .unset, .unset, .unset, .unset, .unset, .unset, .unset, .unset]) (hb hby at_257) rfl rfl ?_
        refine g_lload X34 hx (hb hby at_259) rfl rfl ?_
        refine g_lload X34 hx (hb hby at_261) rfl rfl ?_
        refine g_static X34 hx hZ hown (hw _ (List.mem_of_getElem? (i := 27) rfl)) (hw _ (List.mem_of_getElem? (i := 28) rfl)) (hw _ (List.mem_of_getElem? (i := 25) rfl)) (hw _ (List.mem_of_getElem? (i := 29) rfl)) (by decide) (rm_minJ l Z a0 hw r230 r242 T30.heap n0 Z30) (by rw [hml]; rfl) eh34 [(.long r230), (.long r242)] rfl rfl (W := 0) (Nat.le_of_eq rfl) (by decide) (by decide) (by decide) (by decide) (lenOf pd_2 rfl) (hb hby at_263) rfl fun v35 T35 L35 X35 hQ35 => ?_
        obtain ⟨rfl, Nq35, eh35⟩ := hQ35
        have N35 := Fr.app N34 Nq35
        show Ga _ _ _ _ _ _ _ _ _ _ _ [(.long (if r242 < r230 then r242 else r230))]
        generalize hr263 : (if r242 < r230 then r242 else r230) = r263
        refine g_lstore X35 hx (Ls' := #[.val (.long p0), .second, .val (.long p1), .second, .val (.long p2), .second, .val (.long p3), .second, .val (.long p4), .second, .val (.long p5), .second, .val (.long v6), .second, .val (.long v13), .second, .val (.long v24), .second, .val (.long v51), .second, .val (.double (FP.ddiv (FP.l2d v51) (FP.l2d v6))), .second, .val (.double (FP.l2d v13)), .second, .val (.double (FP.dadd (FP.l2d v13) 4602678819172646912)), .second, .val (.int (1 : Int32)), .val (.int (1 : Int32)), .val (.int (1 : Int32)), .val (.int (1 : Int32)), .val (.long r230), .second, .val (.long r242), .second, .val (.long r254), .second, .val (.long r263), .second, .unset, .unset, .unset, .unset, .unset, .unset, .unset, .unset, .unset, .unset, .unset, .unset, .unset, .unset, .unset, .unset]) (hb hby at_266) rfl rfl ?_
        refine g_lload X35 hx (hb hby at_268) rfl rfl ?_
        refine g_lload X35 hx (hb hby at_270) rfl rfl ?_
        refine g_static X35 hx hZ hown (hw _ (List.mem_of_getElem? (i := 23) rfl)) (hw _ (List.mem_of_getElem? (i := 24) rfl)) (hw _ (List.mem_of_getElem? (i := 25) rfl)) (hw _ (List.mem_of_getElem? (i := 26) rfl)) (by decide) (rm_maxJ l Z a0 hw r230 r242 T30.heap n0 Z30) (by rw [hml]; rfl) eh35 [(.long r230), (.long r242)] rfl rfl (W := 0) (Nat.le_of_eq rfl) (by decide) (by decide) (by decide) (by decide) (lenOf pd_2 rfl) (hb hby at_272) rfl fun v36 T36 L36 X36 hQ36 => ?_
        obtain ⟨rfl, Nq36, eh36⟩ := hQ36
        have N36 := Fr.app N35 Nq36
        show Ga _ _ _ _ _ _ _ _ _ _ _ [(.long (if r230 < r242 then r242 else r230))]
        generalize hr272 : (if r230 < r242 then r242 else r230) = r272
        refine g_lstore X36 hx (Ls' := #[.val (.long p0), .second, .val (.long p1), .second, .val (.long p2), .second, .val (.long p3), .second, .val (.long p4), .second, .val (.long p5), .second, .val (.long v6), .second, .val (.long v13), .second, .val (.long v24), .second, .val (.long v51), .second, .val (.double (FP.ddiv (FP.l2d v51) (FP.l2d v6))), .second, .val (.double (FP.l2d v13)), .second, .val (.double (FP.dadd (FP.l2d v13) 4602678819172646912)), .second, .val (.int (1 : Int32)), .val (.int (1 : Int32)), .val (.int (1 : Int32)), .val (.int (1 : Int32)), .val (.long r230), .second, .val (.long r242), .second, .val (.long r254), .second, .val (.long r263), .second, .val (.long r272), .second, .unset, .unset, .unset, .unset, .unset, .unset, .unset, .unset, .unset, .unset, .unset, .unset, .unset, .unset]) (hb hby at_275) rfl rfl ?_
        have hu := own_max1 hr230
        have hv := own_max1 hr242
        have hw1 := own_max1 hr254
        have hlo := own_min2 hr263 hu hv
        have hhi := own_max2 hr272 hu hv
        have qa5 := own_416x hlo.1 hhi.1 hw1 (Int.le_trans hlo.2.1 hhi.2.1)
        refine g_new X36 hx hZ hown (hw _ (List.mem_of_getElem? (i := 3) rfl)) (hw _ (List.mem_of_getElem? (i := 4) rfl)) (hw _ (List.mem_of_getElem? (i := 5) rfl)) eh36 (hb hby at_277) rfl (by decide) (by decide) fun T37 h37 b37 X37 e37 q37 E37 A37 D37 => ?_
        have ne_b29_b37 : b29 ≠ b37 := own_ne p30_0.lt q37
        have g_b37 : n0 ≤ b37 := Nat.le_trans Z30 (Nat.le_of_eq q37.symm)
        have Z37 : n0 ≤ h37.size := Nat.le_trans Z30 E37.1
        have F37_quotaMicros : Fld Z h37 b37 "com/example/ely/ely/probe/CpuQuota" "quotaMicros" "J" (.long (0 : Int64)) := D37 (Or.inr (hw _ (List.mem_of_getElem? (i := 13) rfl))) (ty := .long) (by decide)
        have F37_periodMicros : Fld Z h37 b37 "com/example/ely/ely/probe/CpuQuota" "periodMicros" "J" (.long (0 : Int64)) := D37 (Or.inr (hw _ (List.mem_of_getElem? (i := 15) rfl))) (ty := .long) (by decide)
        refine g_dup X37 hx (hb hby at_280) rfl rfl ?_
        refine g_lload X37 hx (hb hby at_281) rfl rfl ?_
        refine g_lload X37 hx (hb hby at_283) rfl rfl ?_
        refine g_special X37 hx hZ hown rfl (hw _ (List.mem_of_getElem? (i := 6) rfl)) (hw _ (List.mem_of_getElem? (i := 7) rfl)) (hw _ (List.mem_of_getElem? (i := 5) rfl)) (hw _ (List.mem_of_getElem? (i := 8) rfl)) (by decide) (a := b37) (rm_cqini l Z a0 hw b37 r263 r254 h37 n0 Z37 F37_quotaMicros F37_periodMicros A37 g_b37 (own_pos416 (Int.lt_of_lt_of_le Int.zero_lt_one hlo.1)) (own_pos416 (Int.lt_of_lt_of_le Int.zero_lt_one hw1))) (by rw [hml]; rfl) e37 [(.long r263), (.long r254)] rfl rfl (W := 1) (Nat.le_of_eq rfl) (by decide) (by decide) (by decide) (by decide) (lenOf pd_0 rfl) (hb hby at_285) rfl fun v38 T38 L38 X38 hQ38 => ?_
        obtain ⟨rfl, Nq38, kc38, p38_0, p38_1, p38_2⟩ := hQ38
        have N38 := Fr.app N36 Nq38
        have Z38 : n0 ≤ T38.heap.size := Nat.le_trans Z37 kc38.1
        show Ga _ _ _ _ _ _ _ _ _ _ _ [(.ref b37)]
        refine g_virtual X38 hx hZ hown (hw _ (List.mem_of_getElem? (i := 16) rfl)) (hw _ (List.mem_of_getElem? (i := 17) rfl)) (notFace_of_selects (args := #[]) (mvT hZ (hw _ (List.mem_of_getElem? (i := 19) rfl)))) (hw _ (List.mem_of_getElem? (i := 19) rfl)) (hw _ (List.mem_of_getElem? (i := 18) rfl)) (hw _ (List.mem_of_getElem? (i := 5) rfl)) (hw _ (List.mem_of_getElem? (i := 20) rfl)) (by decide) (a := b37) p38_0 (rm_cpus l Z a0 hw b37 r263 r254 T38.heap n0 Z38 p38_1 p38_2 qa5.1) (by rw [hml]; rfl) rfl [] rfl rfl (W := 0) (Nat.le_of_eq rfl) (by decide) (by decide) (by decide) (by decide) (lenOf pd_1 rfl) (hb hby at_288) rfl fun v39 T39 L39 X39 hQ39 => ?_
        obtain ⟨rfl, Nq39, eh39⟩ := hQ39
        have N39 := Fr.app N38 Nq39
        show Ga _ _ _ _ _ _ _ _ _ _ _ [(.double (FP.ddiv (FP.l2d r263) (FP.l2d r254)))]
        refine g_dstore X39 hx (Ls' := #[.val (.long p0), .second, .val (.long p1), .second, .val (.long p2), .second, .val (.long p3), .second, .val (.long p4), .second, .val (.long p5), .second, .val (.long v6), .second, .val (.long v13), .second, .val (.long v24), .second, .val (.long v51), .second, .val (.double (FP.ddiv (FP.l2d v51) (FP.l2d v6))), .second, .val (.double (FP.l2d v13)), .second, .val (.double (FP.dadd (FP.l2d v13) 4602678819172646912)), .second, .val (.int (1 : Int32)), .val (.int (1 : Int32)), .val (.int (1 : Int32)), .val (.int (1 : Int32)), .val (.long r230), .second, .val (.long r242), .second, .val (.long r254), .second, .val (.long r263), .second, .val (.long r272), .second, .val (.double (FP.ddiv (FP.l2d r263) (FP.l2d r254))), .second, .unset, .unset, .unset, .unset, .unset, .unset, .unset, .unset, .unset, .unset, .unset, .unset]) (hb hby at_291) rfl rfl ?_
        have f41 : Exa Z T38.heap b29 "com/example/ely/ely/probe/CpuQuota" := ((p30_0.ext E37).keep kc38)
        refine g_new X39 hx hZ hown (hw _ (List.mem_of_getElem? (i := 3) rfl)) (hw _ (List.mem_of_getElem? (i := 4) rfl)) (hw _ (List.mem_of_getElem? (i := 5) rfl)) eh39 (hb hby at_293) rfl (by decide) (by decide) fun T40 h40 b40 X40 e40 q40 E40 A40 D40 => ?_
        have ne_b29_b40 : b29 ≠ b40 := own_ne f41.lt q40
        have ne_b37_b40 : b37 ≠ b40 := own_ne p38_0.lt q40
        have g_b40 : n0 ≤ b40 := Nat.le_trans Z38 (Nat.le_of_eq q40.symm)
        have Z40 : n0 ≤ h40.size := Nat.le_trans Z38 E40.1
        have F40_quotaMicros : Fld Z h40 b40 "com/example/ely/ely/probe/CpuQuota" "quotaMicros" "J" (.long (0 : Int64)) := D40 (Or.inr (hw _ (List.mem_of_getElem? (i := 13) rfl))) (ty := .long) (by decide)
        have F40_periodMicros : Fld Z h40 b40 "com/example/ely/ely/probe/CpuQuota" "periodMicros" "J" (.long (0 : Int64)) := D40 (Or.inr (hw _ (List.mem_of_getElem? (i := 15) rfl))) (ty := .long) (by decide)
        refine g_dup X40 hx (hb hby at_296) rfl rfl ?_
        refine g_lload X40 hx (hb hby at_297) rfl rfl ?_
        refine g_lload X40 hx (hb hby at_299) rfl rfl ?_
        refine g_special X40 hx hZ hown rfl (hw _ (List.mem_of_getElem? (i := 6) rfl)) (hw _ (List.mem_of_getElem? (i := 7) rfl)) (hw _ (List.mem_of_getElem? (i := 5) rfl)) (hw _ (List.mem_of_getElem? (i := 8) rfl)) (by decide) (a := b40) (rm_cqini l Z a0 hw b40 r272 r254 h40 n0 Z40 F40_quotaMicros F40_periodMicros A40 g_b40 (own_pos416 (Int.lt_of_lt_of_le Int.zero_lt_one hhi.1)) (own_pos416 (Int.lt_of_lt_of_le Int.zero_lt_one hw1))) (by rw [hml]; rfl) e40 [(.long r272), (.long r254)] rfl rfl (W := 1) (Nat.le_of_eq rfl) (by decide) (by decide) (by decide) (by decide) (lenOf pd_0 rfl) (hb hby at_301) rfl fun v42 T42 L42 X42 hQ42 => ?_
        obtain ⟨rfl, Nq42, kc42, p42_0, p42_1, p42_2⟩ := hQ42
        have N42 := Fr.app N39 Nq42
        have Z42 : n0 ≤ T42.heap.size := Nat.le_trans Z40 kc42.1
        show Ga _ _ _ _ _ _ _ _ _ _ _ [(.ref b40)]
        refine g_virtual X42 hx hZ hown (hw _ (List.mem_of_getElem? (i := 16) rfl)) (hw _ (List.mem_of_getElem? (i := 17) rfl)) (notFace_of_selects (args := #[]) (mvT hZ (hw _ (List.mem_of_getElem? (i := 19) rfl)))) (hw _ (List.mem_of_getElem? (i := 19) rfl)) (hw _ (List.mem_of_getElem? (i := 18) rfl)) (hw _ (List.mem_of_getElem? (i := 5) rfl)) (hw _ (List.mem_of_getElem? (i := 20) rfl)) (by decide) (a := b40) p42_0 (rm_cpus l Z a0 hw b40 r272 r254 T42.heap n0 Z42 p42_1 p42_2 qa5.2.1) (by rw [hml]; rfl) rfl [] rfl rfl (W := 0) (Nat.le_of_eq rfl) (by decide) (by decide) (by decide) (by decide) (lenOf pd_1 rfl) (hb hby at_304) rfl fun v43 T43 L43 X43 hQ43 => ?_
        obtain ⟨rfl, Nq43, eh43⟩ := hQ43
        have N43 := Fr.app N42 Nq43
        show Ga _ _ _ _ _ _ _ _ _ _ _ [(.double (FP.ddiv (FP.l2d r272) (FP.l2d r254)))]
        refine g_dstore X43 hx (Ls' := #[.val (.long p0), .second, .val (.long p1), .second, .val (.long p2), .second, .val (.long p3), .second, .val (.long p4), .second, .val (.long p5), .second, .val (.long v6), .second, .val (.long v13), .second, .val (.long v24), .second, .val (.long v51), .second, .val (.double (FP.ddiv (FP.l2d v51) (FP.l2d v6))), .second, .val (.double (FP.l2d v13)), .second, .val (.double (FP.dadd (FP.l2d v13) 4602678819172646912)), .second, .val (.int (1 : Int32)), .val (.int (1 : Int32)), .val (.int (1 : Int32)), .val (.int (1 : Int32)), .val (.long r230), .second, .val (.long r242), .second, .val (.long r254), .second, .val (.long r263), .second, .val (.long r272), .second, .val (.double (FP.ddiv (FP.l2d r263) (FP.l2d r254))), .second, .val (.double (FP.ddiv (FP.l2d r272) (FP.l2d r254))), .second, .unset, .unset, .unset, .unset, .unset, .unset, .unset, .unset, .unset, .unset]) (hb hby at_307) rfl rfl ?_
        refine g_dload X43 hx (hb hby at_309) rfl rfl ?_
        refine g_dconst0 X43 hx (hb hby at_311) rfl  ?_
        refine g_dcmp X43 hx (hb hby at_312) rfl  ?_
        have hc313 : (0 : Int32) < (cmpValue (FP.dcmp (FP.ddiv (FP.l2d r263) (FP.l2d r254)) FP.dconst0) .l) := qa5.2.2.1
        refine g_ifN X43 hx (hb hby at_313) rfl (XT.i0_le_f hc313) ?_
        refine g_dload X43 hx (hb hby at_316) rfl rfl ?_
        refine g_lload X43 hx (hb hby at_318) rfl rfl ?_
        refine g_l2d X43 hx (hb hby at_320) rfl  ?_
        refine g_dcmp X43 hx (hb hby at_321) rfl  ?_
        have hc322 : ¬ (0 : Int32) < (cmpValue (FP.dcmp (FP.ddiv (FP.l2d r263) (FP.l2d r254)) (FP.l2d r263)) .g) := qa5.2.2.2.1
        refine g_ifN X43 hx (hb hby at_322) rfl (XT.i0_gt_f hc322) ?_
        refine g_dload X43 hx (hb hby at_325) rfl rfl ?_
        refine g_dload X43 hx (hb hby at_327) rfl rfl ?_
        refine g_dcmp X43 hx (hb hby at_329) rfl  ?_
        have hc330 : ¬ (0 : Int32) < (cmpValue (FP.dcmp (FP.ddiv (FP.l2d r263) (FP.l2d r254)) (FP.ddiv (FP.l2d r272) (FP.l2d r254))) .g) := qa5.2.2.2.2
        refine g_ifN X43 hx (hb hby at_330) rfl (XT.i0_gt_f hc330) ?_
        refine g_iconst X43 hx (r := (1 : Int32)) (hb hby at_333) rfl rfl ?_
        refine g_goto X43 hx (q := 338) (hb hby at_334) (by decide) (by decide) ?_
        refine g_istore X43 hx (Ls' := #[.val (.long p0), .second, .val (.long p1), .second, .val (.long p2), .second, .val (.long p3), .second, .val (.long p4), .second, .val (.long p5), .second, .val (.long v6), .second, .val (.long v13), .second, .val (.long v24), .second, .val (.long v51), .second, .val (.double (FP.ddiv (FP.l2d v51) (FP.l2d v6))), .second, .val (.double (FP.l2d v13)), .second, .val (.double (FP.dadd (FP.l2d v13) 4602678819172646912)), .second, .val (.int (1 : Int32)), .val (.int (1 : Int32)), .val (.int (1 : Int32)), .val (.int (1 : Int32)), .val (.long r230), .second, .val (.long r242), .second, .val (.long r254), .second, .val (.long r263), .second, .val (.long r272), .second, .val (.double (FP.ddiv (FP.l2d r263) (FP.l2d r254))), .second, .val (.double (FP.ddiv (FP.l2d r272) (FP.l2d r254))), .second, .val (.int (1 : Int32)), .unset, .unset, .unset, .unset, .unset, .unset, .unset, .unset, .unset]) (hb hby at_338) rfl rfl ?_
        refine g_lload X43 hx (hb hby at_340) rfl rfl ?_
        refine g_lload X43 hx (hb hby at_342) rfl rfl ?_
        refine g_static X43 hx hZ hown (hw _ (List.mem_of_getElem? (i := 27) rfl)) (hw _ (List.mem_of_getElem? (i := 28) rfl)) (hw _ (List.mem_of_getElem? (i := 25) rfl)) (hw _ (List.mem_of_getElem? (i := 29) rfl)) (by decide) (rm_minJ l Z a0 hw r254 r242 T42.heap n0 Z42) (by rw [hml]; rfl) eh43 [(.long r254), (.long r242)] rfl rfl (W := 0) (Nat.le_of_eq rfl) (by decide) (by decide) (by decide) (by decide) (lenOf pd_2 rfl) (hb hby at_344) rfl fun v44 T44 L44 X44 hQ44 => ?_
        obtain ⟨rfl, Nq44, eh44⟩ := hQ44
        have N44 := Fr.app N43 Nq44
        show Ga _ _ _ _ _ _ _ _ _ _ _ [(.long (if r242 < r254 then r242 else r254))]
        generalize hr344 : (if r242 < r254 then r242 else r254) = r344
        refine g_lstore X44 hx (Ls' := #[.val (.long p0), .second, .val (.long p1), .second, .val (.long p2), .second, .val (.long p3), .second, .val (.long p4), .second, .val (.long p5), .second, .val (.long v6), .second, .val (.long v13), .second, .val (.long v24), .second, .val (.long v51), .second, .val (.double (FP.ddiv (FP.l2d v51) (FP.l2d v6))), .second, .val (.double (FP.l2d v13)), .second, .val (.double (FP.dadd (FP.l2d v13) 4602678819172646912)), .second, .val (.int (1 : Int32)), .val (.int (1 : Int32)), .val (.int (1 : Int32)), .val (.int (1 : Int32)), .val (.long r230), .second, .val (.long r242), .second, .val (.long r254), .second, .val (.long r263), .second, .val (.long r272), .second, .val (.double (FP.ddiv (FP.l2d r263) (FP.l2d r254))), .second, .val (.double (FP.ddiv (FP.l2d r272) (FP.l2d r254))), .second, .val (.int (1 : Int32)), .val (.long r344), .second, .unset, .unset, .unset, .unset, .unset, .unset, .unset]) (hb hby at_347) rfl rfl ?_
        refine g_lload X44 hx (hb hby at_349) rfl rfl ?_
        refine g_lload X44 hx (hb hby at_351) rfl rfl ?_
        refine g_static X44 hx hZ hown (hw _ (List.mem_of_getElem? (i := 23) rfl)) (hw _ (List.mem_of_getElem? (i := 24) rfl)) (hw _ (List.mem_of_getElem? (i := 25) rfl)) (hw _ (List.mem_of_getElem? (i := 26) rfl)) (by decide) (rm_maxJ l Z a0 hw r254 r242 T42.heap n0 Z42) (by rw [hml]; rfl) eh44 [(.long r254), (.long r242)] rfl rfl (W := 0) (Nat.le_of_eq rfl) (by decide) (by decide) (by decide) (by decide) (lenOf pd_2 rfl) (hb hby at_353) rfl fun v45 T45 L45 X45 hQ45 => ?_
        obtain ⟨rfl, Nq45, eh45⟩ := hQ45
        have N45 := Fr.app N44 Nq45
        show Ga _ _ _ _ _ _ _ _ _ _ _ [(.long (if r254 < r242 then r242 else r254))]
        generalize hr353 : (if r254 < r242 then r242 else r254) = r353
        refine g_lstore X45 hx (Ls' := #[.val (.long p0), .second, .val (.long p1), .second, .val (.long p2), .second, .val (.long p3), .second, .val (.long p4), .second, .val (.long p5), .second, .val (.long v6), .second, .val (.long v13), .second, .val (.long v24), .second, .val (.long v51), .second, .val (.double (FP.ddiv (FP.l2d v51) (FP.l2d v6))), .second, .val (.double (FP.l2d v13)), .second, .val (.double (FP.dadd (FP.l2d v13) 4602678819172646912)), .second, .val (.int (1 : Int32)), .val (.int (1 : Int32)), .val (.int (1 : Int32)), .val (.int (1 : Int32)), .val (.long r230), .second, .val (.long r242), .second, .val (.long r254), .second, .val (.long r263), .second, .val (.long r272), .second, .val (.double (FP.ddiv (FP.l2d r263) (FP.l2d r254))), .second, .val (.double (FP.ddiv (FP.l2d r272) (FP.l2d r254))), .second, .val (.int (1 : Int32)), .val (.long r344), .second, .val (.long r353), .second, .unset, .unset, .unset, .unset, .unset]) (hb hby at_356) rfl rfl ?_
        have hpl := own_min2 hr344 hw1 hv
        have hph := own_max2 hr353 hw1 hv
        have qa6 := own_416t hu hpl.1 hph.1 (Int.le_trans hpl.2.1 hph.2.1)
        have f47 : Exa Z T42.heap b29 "com/example/ely/ely/probe/CpuQuota" := ((f41.ext E40).keep kc42)
        have f48 : Exa Z T42.heap b37 "com/example/ely/ely/probe/CpuQuota" := ((p38_0.ext E40).keep kc42)
        refine g_new X45 hx hZ hown (hw _ (List.mem_of_getElem? (i := 3) rfl)) (hw _ (List.mem_of_getElem? (i := 4) rfl)) (hw _ (List.mem_of_getElem? (i := 5) rfl)) eh45 (hb hby at_358) rfl (by decide) (by decide) fun T46 h46 b46 X46 e46 q46 E46 A46 D46 => ?_
        have ne_b29_b46 : b29 ≠ b46 := own_ne f47.lt q46
        have ne_b37_b46 : b37 ≠ b46 := own_ne f48.lt q46
        have ne_b40_b46 : b40 ≠ b46 := own_ne p42_0.lt q46
        have g_b46 : n0 ≤ b46 := Nat.le_trans Z42 (Nat.le_of_eq q46.symm)
        have Z46 : n0 ≤ h46.size := Nat.le_trans Z42 E46.1
        have F46_quotaMicros : Fld Z h46 b46 "com/example/ely/ely/probe/CpuQuota" "quotaMicros" "J" (.long (0 : Int64)) := D46 (Or.inr (hw _ (List.mem_of_getElem? (i := 13) rfl))) (ty := .long) (by decide)
        have F46_periodMicros : Fld Z h46 b46 "com/example/ely/ely/probe/CpuQuota" "periodMicros" "J" (.long (0 : Int64)) := D46 (Or.inr (hw _ (List.mem_of_getElem? (i := 15) rfl))) (ty := .long) (by decide)
        refine g_dup X46 hx (hb hby at_361) rfl rfl ?_
        refine g_lload X46 hx (hb hby at_362) rfl rfl ?_
        refine g_lload X46 hx (hb hby at_364) rfl rfl ?_
        refine g_special X46 hx hZ hown rfl (hw _ (List.mem_of_getElem? (i := 6) rfl)) (hw _ (List.mem_of_getElem? (i := 7) rfl)) (hw _ (List.mem_of_getElem? (i := 5) rfl)) (hw _ (List.mem_of_getElem? (i := 8) rfl)) (by decide) (a := b46) (rm_cqini l Z a0 hw b46 r230 r344 h46 n0 Z46 F46_quotaMicros F46_periodMicros A46 g_b46 (own_pos416 (Int.lt_of_lt_of_le Int.zero_lt_one hu)) (own_pos416 (Int.lt_of_lt_of_le Int.zero_lt_one hpl.1))) (by rw [hml]; rfl) e46 [(.long r230), (.long r344)] rfl rfl (W := 1) (Nat.le_of_eq rfl) (by decide) (by decide) (by decide) (by decide) (lenOf pd_0 rfl) (hb hby at_366) rfl fun v49 T49 L49 X49 hQ49 => ?_
        obtain ⟨rfl, Nq49, kc49, p49_0, p49_1, p49_2⟩ := hQ49
        have N49 := Fr.app N45 Nq49
        have Z49 : n0 ≤ T49.heap.size := Nat.le_trans Z46 kc49.1
        show Ga _ _ _ _ _ _ _ _ _ _ _ [(.ref b46)]
        refine g_virtual X49 hx hZ hown (hw _ (List.mem_of_getElem? (i := 16) rfl)) (hw _ (List.mem_of_getElem? (i := 17) rfl)) (notFace_of_selects (args := #[]) (mvT hZ (hw _ (List.mem_of_getElem? (i := 19) rfl)))) (hw _ (List.mem_of_getElem? (i := 19) rfl)) (hw _ (List.mem_of_getElem? (i := 18) rfl)) (hw _ (List.mem_of_getElem? (i := 5) rfl)) (hw _ (List.mem_of_getElem? (i := 20) rfl)) (by decide) (a := b46) p49_0 (rm_cpus l Z a0 hw b46 r230 r344 T49.heap n0 Z49 p49_1 p49_2 qa6.1) (by rw [hml]; rfl) rfl [] rfl rfl (W := 0) (Nat.le_of_eq rfl) (by decide) (by decide) (by decide) (by decide) (lenOf pd_1 rfl) (hb hby at_369) rfl fun v50 T50 L50 X50 hQ50 => ?_
        obtain ⟨rfl, Nq50, eh50⟩ := hQ50
        have N50 := Fr.app N49 Nq50
        show Ga _ _ _ _ _ _ _ _ _ _ _ [(.double (FP.ddiv (FP.l2d r230) (FP.l2d r344)))]
        refine g_dstore X50 hx (Ls' := #[.val (.long p0), .second, .val (.long p1), .second, .val (.long p2), .second, .val (.long p3), .second, .val (.long p4), .second, .val (.long p5), .second, .val (.long v6), .second, .val (.long v13), .second, .val (.long v24), .second, .val (.long v51), .second, .val (.double (FP.ddiv (FP.l2d v51) (FP.l2d v6))), .second, .val (.double (FP.l2d v13)), .second, .val (.double (FP.dadd (FP.l2d v13) 4602678819172646912)), .second, .val (.int (1 : Int32)), .val (.int (1 : Int32)), .val (.int (1 : Int32)), .val (.int (1 : Int32)), .val (.long r230), .second, .val (.long r242), .second, .val (.long r254), .second, .val (.long r263), .second, .val (.long r272), .second, .val (.double (FP.ddiv (FP.l2d r263) (FP.l2d r254))), .second, .val (.double (FP.ddiv (FP.l2d r272) (FP.l2d r254))), .second, .val (.int (1 : Int32)), .val (.long r344), .second, .val (.long r353), .second, .val (.double (FP.ddiv (FP.l2d r230) (FP.l2d r344))), .second, .unset, .unset, .unset]) (hb hby at_372) rfl rfl ?_
        have f52 : Exa Z T49.heap b29 "com/example/ely/ely/probe/CpuQuota" := ((f47.ext E46).keep kc49)
        have f53 : Exa Z T49.heap b37 "com/example/ely/ely/probe/CpuQuota" := ((f48.ext E46).keep kc49)
        have f54 : Exa Z T49.heap b40 "com/example/ely/ely/probe/CpuQuota" := ((p42_0.ext E46).keep kc49)
        refine g_new X50 hx hZ hown (hw _ (List.mem_of_getElem? (i := 3) rfl)) (hw _ (List.mem_of_getElem? (i := 4) rfl)) (hw _ (List.mem_of_getElem? (i := 5) rfl)) eh50 (hb hby at_374) rfl (by decide) (by decide) fun T51 h51 b51 X51 e51 q51 E51 A51 D51 => ?_
        have ne_b29_b51 : b29 ≠ b51 := own_ne f52.lt q51
        have ne_b37_b51 : b37 ≠ b51 := own_ne f53.lt q51
        have ne_b40_b51 : b40 ≠ b51 := own_ne f54.lt q51
        have ne_b46_b51 : b46 ≠ b51 := own_ne p49_0.lt q51
        have g_b51 : n0 ≤ b51 := Nat.le_trans Z49 (Nat.le_of_eq q51.symm)
        have Z51 : n0 ≤ h51.size := Nat.le_trans Z49 E51.1
        have F51_quotaMicros : Fld Z h51 b51 "com/example/ely/ely/probe/CpuQuota" "quotaMicros" "J" (.long (0 : Int64)) := D51 (Or.inr (hw _ (List.mem_of_getElem? (i := 13) rfl))) (ty := .long) (by decide)
        have F51_periodMicros : Fld Z h51 b51 "com/example/ely/ely/probe/CpuQuota" "periodMicros" "J" (.long (0 : Int64)) := D51 (Or.inr (hw _ (List.mem_of_getElem? (i := 15) rfl))) (ty := .long) (by decide)
        refine g_dup X51 hx (hb hby at_377) rfl rfl ?_
        refine g_lload X51 hx (hb hby at_378) rfl rfl ?_
        refine g_lload X51 hx (hb hby at_380) rfl rfl ?_
        refine g_special X51 hx hZ hown rfl (hw _ (List.mem_of_getElem? (i := 6) rfl)) (hw _ (List.mem_of_getElem? (i := 7) rfl)) (hw _ (List.mem_of_getElem? (i := 5) rfl)) (hw _ (List.mem_of_getElem? (i := 8) rfl)) (by decide) (a := b51) (rm_cqini l Z a0 hw b51 r230 r353 h51 n0 Z51 F51_quotaMicros F51_periodMicros A51 g_b51 (own_pos416 (Int.lt_of_lt_of_le Int.zero_lt_one hu)) (own_pos416 (Int.lt_of_lt_of_le Int.zero_lt_one hph.1))) (by rw [hml]; rfl) e51 [(.long r230), (.long r353)] rfl rfl (W := 1) (Nat.le_of_eq rfl) (by decide) (by decide) (by decide) (by decide) (lenOf pd_0 rfl) (hb hby at_382) rfl fun v55 T55 L55 X55 hQ55 => ?_
        obtain ⟨rfl, Nq55, kc55, p55_0, p55_1, p55_2⟩ := hQ55
        have N55 := Fr.app N50 Nq55
        have Z55 : n0 ≤ T55.heap.size := Nat.le_trans Z51 kc55.1
        show Ga _ _ _ _ _ _ _ _ _ _ _ [(.ref b51)]
        refine g_virtual X55 hx hZ hown (hw _ (List.mem_of_getElem? (i := 16) rfl)) (hw _ (List.mem_of_getElem? (i := 17) rfl)) (notFace_of_selects (args := #[]) (mvT hZ (hw _ (List.mem_of_getElem? (i := 19) rfl)))) (hw _ (List.mem_of_getElem? (i := 19) rfl)) (hw _ (List.mem_of_getElem? (i := 18) rfl)) (hw _ (List.mem_of_getElem? (i := 5) rfl)) (hw _ (List.mem_of_getElem? (i := 20) rfl)) (by decide) (a := b51) p55_0 (rm_cpus l Z a0 hw b51 r230 r353 T55.heap n0 Z55 p55_1 p55_2 qa6.2.1) (by rw [hml]; rfl) rfl [] rfl rfl (W := 0) (Nat.le_of_eq rfl) (by decide) (by decide) (by decide) (by decide) (lenOf pd_1 rfl) (hb hby at_385) rfl fun v56 T56 L56 X56 hQ56 => ?_
        obtain ⟨rfl, Nq56, eh56⟩ := hQ56
        have N56 := Fr.app N55 Nq56
        show Ga _ _ _ _ _ _ _ _ _ _ _ [(.double (FP.ddiv (FP.l2d r230) (FP.l2d r353)))]
        refine g_dstore X56 hx (Ls' := #[.val (.long p0), .second, .val (.long p1), .second, .val (.long p2), .second, .val (.long p3), .second, .val (.long p4), .second, .val (.long p5), .second, .val (.long v6), .second, .val (.long v13), .second, .val (.long v24), .second, .val (.long v51), .second, .val (.double (FP.ddiv (FP.l2d v51) (FP.l2d v6))), .second, .val (.double (FP.l2d v13)), .second, .val (.double (FP.dadd (FP.l2d v13) 4602678819172646912)), .second, .val (.int (1 : Int32)), .val (.int (1 : Int32)), .val (.int (1 : Int32)), .val (.int (1 : Int32)), .val (.long r230), .second, .val (.long r242), .second, .val (.long r254), .second, .val (.long r263), .second, .val (.long r272), .second, .val (.double (FP.ddiv (FP.l2d r263) (FP.l2d r254))), .second, .val (.double (FP.ddiv (FP.l2d r272) (FP.l2d r254))), .second, .val (.int (1 : Int32)), .val (.long r344), .second, .val (.long r353), .second, .val (.double (FP.ddiv (FP.l2d r230) (FP.l2d r344))), .second, .val (.double (FP.ddiv (FP.l2d r230) (FP.l2d r353))), .second, .unset]) (hb hby at_388) rfl rfl ?_
        refine g_dload X56 hx (hb hby at_390) rfl rfl ?_
        refine g_dconst0 X56 hx (hb hby at_392) rfl  ?_
        refine g_dcmp X56 hx (hb hby at_393) rfl  ?_
        have hc394 : (0 : Int32) < (cmpValue (FP.dcmp (FP.ddiv (FP.l2d r230) (FP.l2d r353)) FP.dconst0) .l) := qa6.2.2.1
        refine g_ifN X56 hx (hb hby at_394) rfl (XT.i0_le_f hc394) ?_
        refine g_dload X56 hx (hb hby at_397) rfl rfl ?_
        refine g_dload X56 hx (hb hby at_399) rfl rfl ?_
        refine g_dcmp X56 hx (hb hby at_401) rfl  ?_
        have hc402 : ¬ (0 : Int32) < (cmpValue (FP.dcmp (FP.ddiv (FP.l2d r230) (FP.l2d r353)) (FP.ddiv (FP.l2d r230) (FP.l2d r344))) .g) := qa6.2.2.2
        refine g_ifN X56 hx (hb hby at_402) rfl (XT.i0_gt_f hc402) ?_
        refine g_iconst X56 hx (r := (1 : Int32)) (hb hby at_405) rfl rfl ?_
        refine g_goto X56 hx (q := 410) (hb hby at_406) (by decide) (by decide) ?_
        refine g_istore X56 hx (Ls' := #[.val (.long p0), .second, .val (.long p1), .second, .val (.long p2), .second, .val (.long p3), .second, .val (.long p4), .second, .val (.long p5), .second, .val (.long v6), .second, .val (.long v13), .second, .val (.long v24), .second, .val (.long v51), .second, .val (.double (FP.ddiv (FP.l2d v51) (FP.l2d v6))), .second, .val (.double (FP.l2d v13)), .second, .val (.double (FP.dadd (FP.l2d v13) 4602678819172646912)), .second, .val (.int (1 : Int32)), .val (.int (1 : Int32)), .val (.int (1 : Int32)), .val (.int (1 : Int32)), .val (.long r230), .second, .val (.long r242), .second, .val (.long r254), .second, .val (.long r263), .second, .val (.long r272), .second, .val (.double (FP.ddiv (FP.l2d r263) (FP.l2d r254))), .second, .val (.double (FP.ddiv (FP.l2d r272) (FP.l2d r254))), .second, .val (.int (1 : Int32)), .val (.long r344), .second, .val (.long r353), .second, .val (.double (FP.ddiv (FP.l2d r230) (FP.l2d r344))), .second, .val (.double (FP.ddiv (FP.l2d r230) (FP.l2d r353))), .second, .val (.int (1 : Int32))]) (hb hby at_410) rfl rfl ?_
        refine g_iload X56 hx (hb hby at_412) rfl rfl ?_
        refine g_ifN X56 hx (hb hby at_414) rfl (XT.i0_eq_f (by decide : ¬ (1 : Int32) = (0 : Int32))) ?_
        refine g_iload X56 hx (hb hby at_417) rfl rfl ?_
        refine g_ifN X56 hx (hb hby at_419) rfl (XT.i0_eq_f (by decide : ¬ (1 : Int32) = (0 : Int32))) ?_
        refine g_iload X56 hx (hb hby at_422) rfl rfl ?_
        refine g_ifN X56 hx (hb hby at_424) rfl (XT.i0_eq_f (by decide : ¬ (1 : Int32) = (0 : Int32))) ?_
        refine g_iload X56 hx (hb hby at_427) rfl rfl ?_
        refine g_ifN X56 hx (hb hby at_429) rfl (XT.i0_eq_f (by decide : ¬ (1 : Int32) = (0 : Int32))) ?_
        refine g_iload X56 hx (hb hby at_432) rfl rfl ?_
        refine g_ifN X56 hx (hb hby at_434) rfl (XT.i0_eq_f (by decide : ¬ (1 : Int32) = (0 : Int32))) ?_
        refine g_iload X56 hx (hb hby at_437) rfl rfl ?_
        refine g_ifN X56 hx (hb hby at_439) rfl (XT.i0_eq_f (by decide : ¬ (1 : Int32) = (0 : Int32))) ?_
        refine g_iconst X56 hx (r := (1 : Int32)) (hb hby at_442) rfl rfl ?_
        refine g_goto X56 hx (q := 447) (hb hby at_443) (by decide) (by decide) ?_
        exact g_retN X56 hx (t := .boolean) (r := (1 : Int32)) hret (by simp) hlk (hb hby at_447) rfl (by decide) (by decide) (by rw [eh56]; exact ⟨rfl, N56⟩)
      refine g_dload X31 hx (hb hby at_83) rfl rfl ?_
      refine g_dload X31 hx (hb hby at_85) rfl rfl ?_
      refine g_dcmp X31 hx (hb hby at_87) rfl  ?_
      have hc88 : ¬ (0 : Int32) < (cmpValue (FP.dcmp (FP.l2d v13) (FP.ddiv (FP.l2d v51) (FP.l2d v6))) .g) := qa4.2.2.2.2.1
      refine g_ifN X31 hx (hb hby at_88) rfl (XT.i0_gt_f hc88) ?_
      refine g_dload X31 hx (hb hby at_91) rfl rfl ?_
      refine g_dload X31 hx (hb hby at_93) rfl rfl ?_
      refine g_dconst1 X31 hx (hb hby at_95) rfl  ?_
      refine g_dadd X31 hx (hb hby at_96) rfl qa4.2.2.2.1 ?_
      refine g_dcmp X31 hx (hb hby at_97) rfl  ?_
      have hc98 : (cmpValue (FP.dcmp (FP.ddiv (FP.l2d v51) (FP.l2d v6)) (FP.dadd (FP.l2d v13) FP.dconst1)) .g) < (0 : Int32) := qa4.2.2.2.2.2.1
      refine g_ifN X31 hx (hb hby at_98) rfl (XT.i0_ge_f hc98) ?_
      refine g_iconst X31 hx (r := (1 : Int32)) (hb hby at_101) rfl rfl ?_
      refine g_goto X31 hx (q := 106) (hb hby at_102) (by decide) (by decide) ?_
      refine g_istore X31 hx (Ls' := #[.val (.long p0), .second, .val (.long p1), .second, .val (.long p2), .second, .val (.long p3), .second, .val (.long p4), .second, .val (.long p5), .second, .val (.long v6), .second, .val (.long v13), .second, .val (.long v24), .second, .val (.long v51), .second, .val (.double (FP.ddiv (FP.l2d v51) (FP.l2d v6))), .second, .val (.double (FP.l2d v13)), .second, .val (.double (FP.dadd (FP.l2d v13) 4602678819172646912)), .second, .val (.int (1 : Int32)), .unset, .unset, .unset, .unset, .unset, .unset, .unset, .unset, .unset, .unset, .unset, .unset, .unset, .unset, .unset, .unset, .unset, .unset, .unset, .unset, .unset, .unset, .unset, .unset, .unset, .unset, .unset]) (hb hby at_106) rfl rfl ?_
      refine g_lload X31 hx (hb hby at_108) rfl rfl ?_
      refine g_lconst X31 hx (r := (0 : Int64)) (hb hby at_110) rfl rfl ?_
      refine g_lcmp X31 hx (hb hby at_111) rfl  ?_
      have hc112 : ¬ v24 = (0 : Int64) := hc38
      refine g_ifY X31 hx (q := 119) (hb hby at_112) (XT.ll_ne_t hc112) (by decide) (by decide) ?_
      refine g_iconst X31 hx (r := (0 : Int32)) (hb hby at_119) rfl rfl ?_
      refine g_dload X31 hx (hb hby at_120) rfl rfl ?_
      refine g_dload X31 hx (hb hby at_122) rfl rfl ?_
      refine g_dcmp X31 hx (hb hby at_124) rfl  ?_
      have hc125 : ¬ (cmpValue (FP.dcmp (FP.ddiv (FP.l2d v51) (FP.l2d v6)) (FP.l2d v13)) .l) = (0 : Int32) := qa4.2.2.2.2.2.2.2.1 (fun z => hc38 (own_eq64.mpr z))
      refine g_ifY X31 hx (q := 132) (hb hby at_125) (XT.i0_ne_t hc125) (by decide) (by decide) ?_
      refine g_iconst X31 hx (r := (0 : Int32)) (hb hby at_132) rfl rfl ?_
      refine g_icmpN X31 hx (hb hby at_133) rfl (XT.ii_ne_f (by decide : (0 : Int32) = (0 : Int32))) ?_
      refine g_iconst X31 hx (r := (1 : Int32)) (hb hby at_136) rfl rfl ?_
      refine g_goto X31 hx (q := 141) (hb hby at_137) (by decide) (by decide) ?_
      refine g_istore X31 hx (Ls' := #[.val (.long p0), .second, .val (.long p1), .second, .val (.long p2), .second, .val (.long p3), .second, .val (.long p4), .second, .val (.long p5), .second, .val (.long v6), .second, .val (.long v13), .second, .val (.long v24), .second, .val (.long v51), .second, .val (.double (FP.ddiv (FP.l2d v51) (FP.l2d v6))), .second, .val (.double (FP.l2d v13)), .second, .val (.double (FP.dadd (FP.l2d v13) 4602678819172646912)), .second, .val (.int (1 : Int32)), .val (.int (1 : Int32)), .unset, .unset, .unset, .unset, .unset, .unset, .unset, .unset, .unset, .unset, .unset, .unset, .unset, .unset, .unset, .unset, .unset, .unset, .unset, .unset, .unset, .unset, .unset, .unset, .unset, .unset]) (hb hby at_141) rfl rfl ?_
      refine g_ldc2 X31 hx hZ hown (hw _ (List.mem_of_getElem? (i := 22) rfl)) (hb hby at_143) rfl ?_
      refine g_lload X31 hx (hb hby at_146) rfl rfl ?_
      refine g_lmul X31 hx (hb hby at_148) rfl rfl ?_
      refine g_lload X31 hx (hb hby at_149) rfl rfl ?_
      refine g_lcmp X31 hx (hb hby at_151) rfl  ?_
      by_cases hc152 : ((2 : Int64) * v24) < v6
      · skip
        refine g_ifN X31 hx (hb hby at_152) rfl (XT.ll_ge_f hc152) ?_
        refine g_iconst X31 hx (r := (1 : Int32)) (hb hby at_155) rfl rfl ?_
        refine g_goto X31 hx (q := 160) (hb hby at_156) (by decide) (by decide) ?_
        refine g_dload X31 hx (hb hby at_160) rfl rfl ?_
        refine g_dload X31 hx (hb hby at_162) rfl rfl ?_
        refine g_dcmp X31 hx (hb hby at_164) rfl  ?_
        have hc165 : (cmpValue (FP.dcmp (FP.ddiv (FP.l2d v51) (FP.l2d v6)) (FP.dadd (FP.l2d v13) 4602678819172646912)) .g) < (0 : Int32) := qa4.2.2.2.2.2.2.2.2.1 (by rw [← h2r]; exact own_lt64.mp hc152)
        refine g_ifN X31 hx (hb hby at_165) rfl (XT.i0_ge_f hc165) ?_
        refine g_iconst X31 hx (r := (1 : Int32)) (hb hby at_168) rfl rfl ?_
        refine g_goto X31 hx (q := 173) (hb hby at_169) (by decide) (by decide) ?_
        refine g_icmpN X31 hx (hb hby at_173) rfl (XT.ii_ne_f (by decide : (1 : Int32) = (1 : Int32))) ?_
        refine g_iconst X31 hx (r := (1 : Int32)) (hb hby at_176) rfl rfl ?_
        refine g_goto X31 hx (q := 181) (hb hby at_177) (by decide) (by decide) ?_
        refine g_istore X31 hx (Ls' := #[.val (.long p0), .second, .val (.long p1), .second, .val (.long p2), .second, .val (.long p3), .second, .val (.long p4), .second, .val (.long p5), .second, .val (.long v6), .second, .val (.long v13), .second, .val (.long v24), .second, .val (.long v51), .second, .val (.double (FP.ddiv (FP.l2d v51) (FP.l2d v6))), .second, .val (.double (FP.l2d v13)), .second, .val (.double (FP.dadd (FP.l2d v13) 4602678819172646912)), .second, .val (.int (1 : Int32)), .val (.int (1 : Int32)), .val (.int (1 : Int32)), .unset, .unset, .unset, .unset, .unset, .unset, .unset, .unset, .unset, .unset, .unset, .unset, .unset, .unset, .unset, .unset, .unset, .unset, .unset, .unset, .unset, .unset, .unset, .unset, .unset]) (hb hby at_181) rfl rfl ?_
        refine g_ldc2 X31 hx hZ hown (hw _ (List.mem_of_getElem? (i := 22) rfl)) (hb hby at_183) rfl ?_
        refine g_lload X31 hx (hb hby at_186) rfl rfl ?_
        refine g_lmul X31 hx (hb hby at_188) rfl rfl ?_
        refine g_lload X31 hx (hb hby at_189) rfl rfl ?_
        refine g_lcmp X31 hx (hb hby at_191) rfl  ?_
        by_cases hc192 : ((2 : Int64) * v24) = v6
        · skip
          refine g_ifN X31 hx (hb hby at_192) rfl (XT.ll_ne_f hc192) ?_
          refine g_iconst X31 hx (r := (1 : Int32)) (hb hby at_195) rfl rfl ?_
          refine g_goto X31 hx (q := 200) (hb hby at_196) (by decide) (by decide) ?_
          refine g_dload X31 hx (hb hby at_200) rfl rfl ?_
          refine g_dload X31 hx (hb hby at_202) rfl rfl ?_
          refine g_dcmp X31 hx (hb hby at_204) rfl  ?_
          have hc205 : (cmpValue (FP.dcmp (FP.ddiv (FP.l2d v51) (FP.l2d v6)) (FP.dadd (FP.l2d v13) 4602678819172646912)) .l) = (0 : Int32) := qa4.2.2.2.2.2.2.2.2.2.2.1 (by rw [← h2r]; exact own_eq64.mp hc192)
          refine g_ifN X31 hx (hb hby at_205) rfl (XT.i0_ne_f hc205) ?_
          refine g_iconst X31 hx (r := (1 : Int32)) (hb hby at_208) rfl rfl ?_
          refine g_goto X31 hx (q := 213) (hb hby at_209) (by decide) (by decide) ?_
          refine g_icmpN X31 hx (hb hby at_213) rfl (XT.ii_ne_f (by decide : (1 : Int32) = (1 : Int32))) ?_
          refine g_iconst X31 hx (r := (1 : Int32)) (hb hby at_216) rfl rfl ?_
          refine g_goto X31 hx (q := 221) (hb hby at_217) (by decide) (by decide) ?_
          refine g_istore X31 hx (Ls' := #[.val (.long p0), .second, .val (.long p1), .second, .val (.long p2), .second, .val (.long p3), .second, .val (.long p4), .second, .val (.long p5), .second, .val (.long v6), .second, .val (.long v13), .second, .val (.long v24), .second, .val (.long v51), .second, .val (.double (FP.ddiv (FP.l2d v51) (FP.l2d v6))), .second, .val (.double (FP.l2d v13)), .second, .val (.double (FP.dadd (FP.l2d v13) 4602678819172646912)), .second, .val (.int (1 : Int32)), .val (.int (1 : Int32)), .val (.int (1 : Int32)), .val (.int (1 : Int32)), .unset, .unset, .unset, .unset, .unset, .unset, .unset, .unset, .unset, .unset, .unset, .unset, .unset, .unset, .unset, .unset, .unset, .unset, .unset, .unset, .unset, .unset, .unset, .unset]) (hb hby at_221) rfl rfl ?_
          exact J223
        · skip
          refine g_ifY X31 hx (q := 199) (hb hby at_192) (XT.ll_ne_t hc192) (by decide) (by decide) ?_
          refine g_iconst X31 hx (r := (0 : Int32)) (hb hby at_199) rfl rfl ?_
          refine g_dload X31 hx (hb hby at_200) rfl rfl ?_
          refine g_dload X31 hx (hb hby at_202) rfl rfl ?_
          refine g_dcmp X31 hx (hb hby at_204) rfl  ?_
          have hc205 : ¬ (cmpValue (FP.dcmp (FP.ddiv (FP.l2d v51) (FP.l2d v6)) (FP.dadd (FP.l2d v13) 4602678819172646912)) .l) = (0 : Int32) := qa4.2.2.2.2.2.2.2.2.2.2.2 (by rw [← h2r]; exact fun z => hc192 (own_eq64.mpr z))
          refine g_ifY X31 hx (q := 212) (hb hby at_205) (XT.i0_ne_t hc205) (by decide) (by decide) ?_
          refine g_iconst X31 hx (r := (0 : Int32)) (hb hby at_212) rfl rfl ?_
          refine g_icmpN X31 hx (hb hby at_213) rfl (XT.ii_ne_f (by decide : (0 : Int32) = (0 : Int32))) ?_
          refine g_iconst X31 hx (r := (1 : Int32)) (hb hby at_216) rfl rfl ?_
          refine g_goto X31 hx (q := 221) (hb hby at_217) (by decide) (by decide) ?_
          refine g_istore X31 hx (Ls' := #[.val (.long p0), .second, .val (.long p1), .second, .val (.long p2), .second, .val (.long p3), .second, .val (.long p4), .second, .val (.long p5), .second, .val (.long v6), .second, .val (.long v13), .second, .val (.long v24), .second, .val (.long v51), .second, .val (.double (FP.ddiv (FP.l2d v51) (FP.l2d v6))), .second, .val (.double (FP.l2d v13)), .second, .val (.double (FP.dadd (FP.l2d v13) 4602678819172646912)), .second, .val (.int (1 : Int32)), .val (.int (1 : Int32)), .val (.int (1 : Int32)), .val (.int (1 : Int32)), .unset, .unset, .unset, .unset, .unset, .unset, .unset, .unset, .unset, .unset, .unset, .unset, .unset, .unset, .unset, .unset, .unset, .unset, .unset, .unset, .unset, .unset, .unset, .unset]) (hb hby at_221) rfl rfl ?_
          exact J223
      · skip
        refine g_ifY X31 hx (q := 159) (hb hby at_152) (XT.ll_ge_t hc152) (by decide) (by decide) ?_
        refine g_iconst X31 hx (r := (0 : Int32)) (hb hby at_159) rfl rfl ?_
        refine g_dload X31 hx (hb hby at_160) rfl rfl ?_
        refine g_dload X31 hx (hb hby at_162) rfl rfl ?_
        refine g_dcmp X31 hx (hb hby at_164) rfl  ?_
        have hc165 : ¬ (cmpValue (FP.dcmp (FP.ddiv (FP.l2d v51) (FP.l2d v6)) (FP.dadd (FP.l2d v13) 4602678819172646912)) .g) < (0 : Int32) := qa4.2.2.2.2.2.2.2.2.2.1 (by rw [← h2r]; exact fun z => hc152 (own_lt64.mpr z))
        refine g_ifY X31 hx (q := 172) (hb hby at_165) (XT.i0_ge_t hc165) (by decide) (by decide) ?_
        refine g_iconst X31 hx (r := (0 : Int32)) (hb hby at_172) rfl rfl ?_
        refine g_icmpN X31 hx (hb hby at_173) rfl (XT.ii_ne_f (by decide : (0 : Int32) = (0 : Int32))) ?_
        refine g_iconst X31 hx (r := (1 : Int32)) (hb hby at_176) rfl rfl ?_
        refine g_goto X31 hx (q := 181) (hb hby at_177) (by decide) (by decide) ?_
        refine g_istore X31 hx (Ls' := #[.val (.long p0), .second, .val (.long p1), .second, .val (.long p2), .second, .val (.long p3), .second, .val (.long p4), .second, .val (.long p5), .second, .val (.long v6), .second, .val (.long v13), .second, .val (.long v24), .second, .val (.long v51), .second, .val (.double (FP.ddiv (FP.l2d v51) (FP.l2d v6))), .second, .val (.double (FP.l2d v13)), .second, .val (.double (FP.dadd (FP.l2d v13) 4602678819172646912)), .second, .val (.int (1 : Int32)), .val (.int (1 : Int32)), .val (.int (1 : Int32)), .unset, .unset, .unset, .unset, .unset, .unset, .unset, .unset, .unset, .unset, .unset, .unset, .unset, .unset, .unset, .unset, .unset, .unset, .unset, .unset, .unset, .unset, .unset, .unset, .unset]) (hb hby at_181) rfl rfl ?_
        refine g_ldc2 X31 hx hZ hown (hw _ (List.mem_of_getElem? (i := 22) rfl)) (hb hby at_183) rfl ?_
        refine g_lload X31 hx (hb hby at_186) rfl rfl ?_
        refine g_lmul X31 hx (hb hby at_188) rfl rfl ?_
        refine g_lload X31 hx (hb hby at_189) rfl rfl ?_
        refine g_lcmp X31 hx (hb hby at_191) rfl  ?_
        by_cases hc192 : ((2 : Int64) * v24) = v6
        · skip
          refine g_ifN X31 hx (hb hby at_192) rfl (XT.ll_ne_f hc192) ?_
          refine g_iconst X31 hx (r := (1 : Int32)) (hb hby at_195) rfl rfl ?_
          refine g_goto X31 hx (q := 200) (hb hby at_196) (by decide) (by decide) ?_
          refine g_dload X31 hx (hb hby at_200) rfl rfl ?_
          refine g_dload X31 hx (hb hby at_202) rfl rfl ?_
          refine g_dcmp X31 hx (hb hby at_204) rfl  ?_
          have hc205 : (cmpValue (FP.dcmp (FP.ddiv (FP.l2d v51) (FP.l2d v6)) (FP.dadd (FP.l2d v13) 4602678819172646912)) .l) = (0 : Int32) := qa4.2.2.2.2.2.2.2.2.2.2.1 (by rw [← h2r]; exact own_eq64.mp hc192)
          refine g_ifN X31 hx (hb hby at_205) rfl (XT.i0_ne_f hc205) ?_
          refine g_iconst X31 hx (r := (1 : Int32)) (hb hby at_208) rfl rfl ?_
          refine g_goto X31 hx (q := 213) (hb hby at_209) (by decide) (by decide) ?_
          refine g_icmpN X31 hx (hb hby at_213) rfl (XT.ii_ne_f (by decide : (1 : Int32) = (1 : Int32))) ?_
          refine g_iconst X31 hx (r := (1 : Int32)) (hb hby at_216) rfl rfl ?_
          refine g_goto X31 hx (q := 221) (hb hby at_217) (by decide) (by decide) ?_
          refine g_istore X31 hx (Ls' := #[.val (.long p0), .second, .val (.long p1), .second, .val (.long p2), .second, .val (.long p3), .second, .val (.long p4), .second, .val (.long p5), .second, .val (.long v6), .second, .val (.long v13), .second, .val (.long v24), .second, .val (.long v51), .second, .val (.double (FP.ddiv (FP.l2d v51) (FP.l2d v6))), .second, .val (.double (FP.l2d v13)), .second, .val (.double (FP.dadd (FP.l2d v13) 4602678819172646912)), .second, .val (.int (1 : Int32)), .val (.int (1 : Int32)), .val (.int (1 : Int32)), .val (.int (1 : Int32)), .unset, .unset, .unset, .unset, .unset, .unset, .unset, .unset, .unset, .unset, .unset, .unset, .unset, .unset, .unset, .unset, .unset, .unset, .unset, .unset, .unset, .unset, .unset, .unset]) (hb hby at_221) rfl rfl ?_
          exact J223
        · skip
          refine g_ifY X31 hx (q := 199) (hb hby at_192) (XT.ll_ne_t hc192) (by decide) (by decide) ?_
          refine g_iconst X31 hx (r := (0 : Int32)) (hb hby at_199) rfl rfl ?_
          refine g_dload X31 hx (hb hby at_200) rfl rfl ?_
          refine g_dload X31 hx (hb hby at_202) rfl rfl ?_
          refine g_dcmp X31 hx (hb hby at_204) rfl  ?_
          have hc205 : ¬ (cmpValue (FP.dcmp (FP.ddiv (FP.l2d v51) (FP.l2d v6)) (FP.dadd (FP.l2d v13) 4602678819172646912)) .l) = (0 : Int32) := qa4.2.2.2.2.2.2.2.2.2.2.2 (by rw [← h2r]; exact fun z => hc192 (own_eq64.mpr z))
          refine g_ifY X31 hx (q := 212) (hb hby at_205) (XT.i0_ne_t hc205) (by decide) (by decide) ?_
          refine g_iconst X31 hx (r := (0 : Int32)) (hb hby at_212) rfl rfl ?_
          refine g_icmpN X31 hx (hb hby at_213) rfl (XT.ii_ne_f (by decide : (0 : Int32) = (0 : Int32))) ?_
          refine g_iconst X31 hx (r := (1 : Int32)) (hb hby at_216) rfl rfl ?_
          refine g_goto X31 hx (q := 221) (hb hby at_217) (by decide) (by decide) ?_
          refine g_istore X31 hx (Ls' := #[.val (.long p0), .second, .val (.long p1), .second, .val (.long p2), .second, .val (.long p3), .second, .val (.long p4), .second, .val (.long p5), .second, .val (.long v6), .second, .val (.long v13), .second, .val (.long v24), .second, .val (.long v51), .second, .val (.double (FP.ddiv (FP.l2d v51) (FP.l2d v6))), .second, .val (.double (FP.l2d v13)), .second, .val (.double (FP.dadd (FP.l2d v13) 4602678819172646912)), .second, .val (.int (1 : Int32)), .val (.int (1 : Int32)), .val (.int (1 : Int32)), .val (.int (1 : Int32)), .unset, .unset, .unset, .unset, .unset, .unset, .unset, .unset, .unset, .unset, .unset, .unset, .unset, .unset, .unset, .unset, .unset, .unset, .unset, .unset, .unset, .unset, .unset, .unset]) (hb hby at_221) rfl rfl ?_
          exact J223
  · skip
    refine g_ifY X0 hx (q := 44) (hb hby at_31) (XT.ll_ne_t hc31) (by decide) (by decide) ?_
    refine g_lload X0 hx (hb hby at_44) rfl rfl ?_
    refine g_lload X0 hx (hb hby at_46) rfl rfl ?_
    refine g_lmul X0 hx (hb hby at_48) rfl rfl ?_
    refine g_lload X0 hx (hb hby at_49) rfl rfl ?_
    obtain ⟨v51, hv51⟩ : ∃ r, ((v13 * v6) + v24) = r := ⟨_, rfl⟩
    refine g_ladd X0 hx (hb hby at_51) rfl hv51 ?_
    refine g_lstore X0 hx (Ls' := #[.val (.long p0), .second, .val (.long p1), .second, .val (.long p2), .second, .val (.long p3), .second, .val (.long p4), .second, .val (.long p5), .second, .val (.long v6), .second, .val (.long v13), .second, .val (.long v24), .second, .val (.long v51), .second, .unset, .unset, .unset, .unset, .unset, .unset, .unset, .unset, .unset, .unset, .unset, .unset, .unset, .unset, .unset, .unset, .unset, .unset, .unset, .unset, .unset, .unset, .unset, .unset, .unset, .unset, .unset, .unset, .unset, .unset, .unset, .unset, .unset, .unset]) (hb hby at_52) rfl rfl ?_
    have hpr := own_p416 hv6
    have hrr := own_r416 hv24 hpr.1
    have har : 0 ≤ (v13).toInt ∧ (v13).toInt ≤ 1048575 := own_a416 hv13
    have qa4 := own_416 hpr.1 hpr.2 har.1 har.2 hrr.1 hrr.2 hv51
    have hqp := own_q416 qa4.1 hpr.1 har.1 hrr.1 (Or.inl hc31)
    have hpp := own_pos416 hpr.1
    have h2r := own_2r hrr.1 hrr.2 hpr.2
    refine g_new X0 hx hZ hown (hw _ (List.mem_of_getElem? (i := 3) rfl)) (hw _ (List.mem_of_getElem? (i := 4) rfl)) (hw _ (List.mem_of_getElem? (i := 5) rfl)) e0 (hb hby at_54) rfl (by decide) (by decide) fun T57 h57 b57 X57 e57 q57 E57 A57 D57 => ?_
    have g_b57 : n0 ≤ b57 := Nat.le_trans Z0 (Nat.le_of_eq q57.symm)
    have Z57 : n0 ≤ h57.size := Nat.le_trans Z0 E57.1
    have F57_quotaMicros : Fld Z h57 b57 "com/example/ely/ely/probe/CpuQuota" "quotaMicros" "J" (.long (0 : Int64)) := D57 (Or.inr (hw _ (List.mem_of_getElem? (i := 13) rfl))) (ty := .long) (by decide)
    have F57_periodMicros : Fld Z h57 b57 "com/example/ely/ely/probe/CpuQuota" "periodMicros" "J" (.long (0 : Int64)) := D57 (Or.inr (hw _ (List.mem_of_getElem? (i := 15) rfl))) (ty := .long) (by decide)
    refine g_dup X57 hx (hb hby at_57) rfl rfl ?_
    refine g_lload X57 hx (hb hby at_58) rfl rfl ?_
    refine g_lload X57 hx (hb hby at_60) rfl rfl ?_
    refine g_special X57 hx hZ hown rfl (hw _ (List.mem_of_getElem? (i := 6) rfl)) (hw _ (List.mem_of_getElem? (i := 7) rfl)) (hw _ (List.mem_of_getElem? (i := 5) rfl)) (hw _ (List.mem_of_getElem? (i := 8) rfl)) (by decide) (a := b57) (rm_cqini l Z a0 hw b57 v51 v6 h57 n0 Z57 F57_quotaMicros F57_periodMicros A57 g_b57 hqp hpp) (by rw [hml]; rfl) e57 [(.long v51), (.long v6)] rfl rfl (W := 1) (Nat.le_of_eq rfl) (by decide) (by decide) (by decide) (by decide) (lenOf pd_0 rfl) (hb hby at_62) rfl fun v58 T58 L58 X58 hQ58 => ?_
    obtain ⟨rfl, Nq58, kc58, p58_0, p58_1, p58_2⟩ := hQ58
    have N58 := Fr.app N0 Nq58
    have Z58 : n0 ≤ T58.heap.size := Nat.le_trans Z57 kc58.1
    show Ga _ _ _ _ _ _ _ _ _ _ _ [(.ref b57)]
    refine g_virtual X58 hx hZ hown (hw _ (List.mem_of_getElem? (i := 16) rfl)) (hw _ (List.mem_of_getElem? (i := 17) rfl)) (notFace_of_selects (args := #[]) (mvT hZ (hw _ (List.mem_of_getElem? (i := 19) rfl)))) (hw _ (List.mem_of_getElem? (i := 19) rfl)) (hw _ (List.mem_of_getElem? (i := 18) rfl)) (hw _ (List.mem_of_getElem? (i := 5) rfl)) (hw _ (List.mem_of_getElem? (i := 20) rfl)) (by decide) (a := b57) p58_0 (rm_cpus l Z a0 hw b57 v51 v6 T58.heap n0 Z58 p58_1 p58_2 qa4.2.1) (by rw [hml]; rfl) rfl [] rfl rfl (W := 0) (Nat.le_of_eq rfl) (by decide) (by decide) (by decide) (by decide) (lenOf pd_1 rfl) (hb hby at_65) rfl fun v59 T59 L59 X59 hQ59 => ?_
    obtain ⟨rfl, Nq59, eh59⟩ := hQ59
    have N59 := Fr.app N58 Nq59
    show Ga _ _ _ _ _ _ _ _ _ _ _ [(.double (FP.ddiv (FP.l2d v51) (FP.l2d v6)))]
    refine g_dstore X59 hx (Ls' := #[.val (.long p0), .second, .val (.long p1), .second, .val (.long p2), .second, .val (.long p3), .second, .val (.long p4), .second, .val (.long p5), .second, .val (.long v6), .second, .val (.long v13), .second, .val (.long v24), .second, .val (.long v51), .second, .val (.double (FP.ddiv (FP.l2d v51) (FP.l2d v6))), .second, .unset, .unset, .unset, .unset, .unset, .unset, .unset, .unset, .unset, .unset, .unset, .unset, .unset, .unset, .unset, .unset, .unset, .unset, .unset, .unset, .unset, .unset, .unset, .unset, .unset, .unset, .unset, .unset, .unset, .unset, .unset, .unset]) (hb hby at_68) rfl rfl ?_
    refine g_lload X59 hx (hb hby at_70) rfl rfl ?_
    refine g_l2d X59 hx (hb hby at_72) rfl  ?_
    refine g_dstore X59 hx (Ls' := #[.val (.long p0), .second, .val (.long p1), .second, .val (.long p2), .second, .val (.long p3), .second, .val (.long p4), .second, .val (.long p5), .second, .val (.long v6), .second, .val (.long v13), .second, .val (.long v24), .second, .val (.long v51), .second, .val (.double (FP.ddiv (FP.l2d v51) (FP.l2d v6))), .second, .val (.double (FP.l2d v13)), .second, .unset, .unset, .unset, .unset, .unset, .unset, .unset, .unset, .unset, .unset, .unset, .unset, .unset, .unset, .unset, .unset, .unset, .unset, .unset, .unset, .unset, .unset, .unset, .unset, .unset, .unset, .unset, .unset, .unset, .unset]) (hb hby at_73) rfl rfl ?_
    refine g_dload X59 hx (hb hby at_75) rfl rfl ?_
    refine g_ldc2D X59 hx hZ hown (hw _ (List.mem_of_getElem? (i := 21) rfl)) (hb hby at_77) rfl ?_
    refine g_dadd X59 hx (hb hby at_80) rfl qa4.2.2.1 ?_
    refine g_dstore X59 hx (Ls' := #[.val (.long p0), .second, .val (.long p1), .second, .val (.long p2), .second, .val (.long p3), .second, .val (.long p4), .second, .val (.long p5), .second, .val (.long v6), .second, .val (.long v13), .second, .val (.long v24), .second, .val (.long v51), .second, .val (.double (FP.ddiv (FP.l2d v51) (FP.l2d v6))), .second, .val (.double (FP.l2d v13)), .second, .val (.double (FP.dadd (FP.l2d v13) 4602678819172646912)), .second, .unset, .unset, .unset, .unset, .unset, .unset, .unset, .unset, .unset, .unset, .unset, .unset, .unset, .unset, .unset, .unset, .unset, .unset, .unset, .unset, .unset, .unset, .unset, .unset, .unset, .unset, .unset, .unset]) (hb hby at_81) rfl rfl ?_
    have J223 : Ga p e below s (Q_law Z p0 p1 p2 p3 p4 p5 h0 n0) room_1.cells room_1.slots T59 m 223 #[.val (.long p0), .second, .val (.long p1), .second, .val (.long p2), .second, .val (.long p3), .second, .val (.long p4), .second, .val (.long p5), .second, .val (.long v6), .second, .val (.long v13), .second, .val (.long v24), .second, .val (.long v51), .second, .val (.double (FP.ddiv (FP.l2d v51) (FP.l2d v6))), .second, .val (.double (FP.l2d v13)), .second, .val (.double (FP.dadd (FP.l2d v13) 4602678819172646912)), .second, .val (.int (1 : Int32)), .val (.int (1 : Int32)), .val (.int (1 : Int32)), .val (.int (1 : Int32)), .unset, .unset, .unset, .unset, .unset, .unset, .unset, .unset, .unset, .unset, .unset, .unset, .unset, .unset, .unset, .unset, .unset, .unset, .unset, .unset, .unset, .unset, .unset, .unset] [] := by
      refine g_lconst X59 hx (r := (1 : Int64)) (hb hby at_223) rfl rfl ?_
      refine g_lload X59 hx (hb hby at_224) rfl rfl ?_
      refine g_ldc2 X59 hx hZ hown (hw _ (List.mem_of_getElem? (i := 2) rfl)) (hb hby at_226) rfl ?_
      refine g_land X59 hx (hb hby at_229) rfl rfl ?_
      refine g_static X59 hx hZ hown (hw _ (List.mem_of_getElem? (i := 23) rfl)) (hw _ (List.mem_of_getElem? (i := 24) rfl)) (hw _ (List.mem_of_getElem? (i := 25) rfl)) (hw _ (List.mem_of_getElem? (i := 26) rfl)) (by decide) (rm_maxJ l Z a0 hw (1 : Int64) (p3 &&& (9223372036854775807 : Int64)) T58.heap n0 Z58) (by rw [hml]; rfl) eh59 [(.long (1 : Int64)), (.long (p3 &&& (9223372036854775807 : Int64)))] rfl rfl (W := 0) (Nat.le_of_eq rfl) (by decide) (by decide) (by decide) (by decide) (lenOf pd_2 rfl) (hb hby at_230) rfl fun v60 T60 L60 X60 hQ60 => ?_
      obtain ⟨rfl, Nq60, eh60⟩ := hQ60
      have N60 := Fr.app N59 Nq60
      show Ga _ _ _ _ _ _ _ _ _ _ _ [(.long (if (1 : Int64) < (p3 &&& (9223372036854775807 : Int64)) then (p3 &&& (9223372036854775807 : Int64)) else (1 : Int64)))]
      generalize hr230 : (if (1 : Int64) < (p3 &&& (9223372036854775807 : Int64)) then (p3 &&& (9223372036854775807 : Int64)) else (1 : Int64)) = r230
      refine g_lstore X60 hx (Ls' := #[.val (.long p0), .second, .val (.long p1), .second, .val (.long p2), .second, .val (.long p3), .second, .val (.long p4), .second, .val (.long p5), .second, .val (.long v6), .second, .val (.long v13), .second, .val (.long v24), .second, .val (.long v51), .second, .val (.double (FP.ddiv (FP.l2d v51) (FP.l2d v6))), .second, .val (.double (FP.l2d v13)), .second, .val (.double (FP.dadd (FP.l2d v13) 4602678819172646912)), .second, .val (.int (1 : Int32)), .val (.int (1 : Int32)), .val (.int (1 : Int32)), .val (.int (1 : Int32)), .val (.long r230), .second, .unset, .unset, .unset, .unset, .unset, .unset, .unset, .unset, .unset, .unset, .unset, .unset, .unset, .unset, .unset, .unset, .unset, .unset, .unset, .unset, .unset, .unset]) (hb hby at_233) rfl rfl ?_
      refine g_lconst X60 hx (r := (1 : Int64)) (hb hby at_235) rfl rfl ?_
      refine g_lload X60 hx (hb hby at_236) rfl rfl ?_
      refine g_ldc2 X60 hx hZ hown (hw _ (List.mem_of_getElem? (i := 2) rfl)) (hb hby at_238) rfl ?_
      refine g_land X60 hx (hb hby at_241) rfl rfl ?_
      refine g_static X60 hx hZ hown (hw _ (List.mem_of_getElem? (i := 23) rfl)) (hw _ (List.mem_of_getElem? (i := 24) rfl)) (hw _ (List.mem_of_getElem? (i := 25) rfl)) (hw _ (List.mem_of_getElem? (i := 26) rfl)) (by decide) (rm_maxJ l Z a0 hw (1 : Int64) (p4 &&& (9223372036854775807 : Int64)) T58.heap n0 Z58) (by rw [hml]; rfl) eh60 [(.long (1 : Int64)), (.long (p4 &&& (9223372036854775807 : Int64)))] rfl rfl (W := 0) (Nat.le_of_eq rfl) (by decide) (by decide) (by decide) (by decide) (lenOf pd_2 rfl) (hb hby at_242) rfl fun v61 T61 L61 X61 hQ61 => ?_
      obtain ⟨rfl, Nq61, eh61⟩ := hQ61
      have N61 := Fr.app N60 Nq61
      show Ga _ _ _ _ _ _ _ _ _ _ _ [(.long (if (1 : Int64) < (p4 &&& (9223372036854775807 : Int64)) then (p4 &&& (9223372036854775807 : Int64)) else (1 : Int64)))]
      generalize hr242 : (if (1 : Int64) < (p4 &&& (9223372036854775807 : Int64)) then (p4 &&& (9223372036854775807 : Int64)) else (1 : Int64)) = r242
      refine g_lstore X61 hx (Ls' := #[.val (.long p0), .second, .val (.long p1), .second, .val (.long p2), .second, .val (.long p3), .second, .val (.long p4), .second, .val (.long p5), .second, .val (.long v6), .second, .val (.long v13), .second, .val (.long v24), .second, .val (.long v51), .second, .val (.double (FP.ddiv (FP.l2d v51) (FP.l2d v6))), .second, .val (.double (FP.l2d v13)), .second, .val (.double (FP.dadd (FP.l2d v13) 4602678819172646912)), .second, .val (.int (1 : Int32)), .val (.int (1 : Int32)), .val (.int (1 : Int32)), .val (.int (1 : Int32)), .val (.long r230), .second, .val (.long r242), .second, .unset, .unset, .unset, .unset, .unset, .unset, .unset, .unset, .unset, .unset, .unset, .unset, .unset, .unset, .unset, .unset, .unset, .unset, .unset, .unset]) (hb hby at_245) rfl rfl ?_
      refine g_lconst X61 hx (r := (1 : Int64)) (hb hby at_247) rfl rfl ?_
      refine g_lload X61 hx (hb hby at_248) rfl rfl ?_
      refine g_ldc2 X61 hx hZ hown (hw _ (List.mem_of_getElem? (i := 2) rfl)) (hb hby at_250) rfl ?_
      refine g_land X61 hx (hb hby at_253) rfl rfl ?_
      refine g_static X61 hx hZ hown (hw _ (List.mem_of_getElem? (i := 23) rfl)) (hw _ (List.mem_of_getElem? (i := 24) rfl)) (hw _ (List.mem_of_getElem? (i := 25) rfl)) (hw _ (List.mem_of_getElem? (i := 26) rfl)) (by decide) (rm_maxJ l Z a0 hw (1 : Int64) (p5 &&& (9223372036854775807 : Int64)) T58.heap n0 Z58) (by rw [hml]; rfl) eh61 [(.long (1 : Int64)), (.long (p5 &&& (9223372036854775807 : Int64)))] rfl rfl (W := 0) (Nat.le_of_eq rfl) (by decide) (by decide) (by decide) (by decide) (lenOf pd_2 rfl) (hb hby at_254) rfl fun v62 T62 L62 X62 hQ62 => ?_
      obtain ⟨rfl, Nq62, eh62⟩ := hQ62
      have N62 := Fr.app N61 Nq62
      show Ga _ _ _ _ _ _ _ _ _ _ _ [(.long (if (1 : Int64) < (p5 &&& (9223372036854775807 : Int64)) then (p5 &&& (9223372036854775807 : Int64)) else (1 : Int64)))]
      generalize hr254 : (if (1 : Int64) < (p5 &&& (9223372036854775807 : Int64)) then (p5 &&& (9223372036854775807 : Int64)) else (1 : Int64)) = r254
      refine g_lstore X62 hx (Ls' := #[.val (.long p0), .second, .val (.long p1), .second, .val (.long p2), .second, .val (.long p3), .second, .val (.long p4), .second, .val (.long p5), .second, .val (.long v6), .second, .val (.long v13), .second, .val (.long v24), .second, .val (.long v51), .second, .val (.double (FP.ddiv (FP.l2d v51) (FP.l2d v6))), .second, .val (.double (FP.l2d v13)), .second, .val (.double (FP.dadd (FP.l2d v13) 4602678819172646912)), .second, .val (.int (1 : Int32)), .val (.int (1 : Int32)), .val (.int (1 : Int32)), .val (.int (1 : Int32)), .val (.long r230), .second, .val (.long r242), .second, .val (.long r254), .second, .unset, .unset, .unset, .unset, .unset, .unset, .unset, .unset, .unset, .unset, .unset, .unset, .unset, .unset, .unset, .unset, .unset, .unset]) (hb hby at_257) rfl rfl ?_
      refine g_lload X62 hx (hb hby at_259) rfl rfl ?_
      refine g_lload X62 hx (hb hby at_261) rfl rfl ?_
      refine g_static X62 hx hZ hown (hw _ (List.mem_of_getElem? (i := 27) rfl)) (hw _ (List.mem_of_getElem? (i := 28) rfl)) (hw _ (List.mem_of_getElem? (i := 25) rfl)) (hw _ (List.mem_of_getElem? (i := 29) rfl)) (by decide) (rm_minJ l Z a0 hw r230 r242 T58.heap n0 Z58) (by rw [hml]; rfl) eh62 [(.long r230), (.long r242)] rfl rfl (W := 0) (Nat.le_of_eq rfl) (by decide) (by decide) (by decide) (by decide) (lenOf pd_2 rfl) (hb hby at_263) rfl fun v63 T63 L63 X63 hQ63 => ?_
      obtain ⟨rfl, Nq63, eh63⟩ := hQ63
      have N63 := Fr.app N62 Nq63
      show Ga _ _ _ _ _ _ _ _ _ _ _ [(.long (if r242 < r230 then r242 else r230))]
      generalize hr263 : (if r242 < r230 then r242 else r230) = r263
      refine g_lstore X63 hx (Ls' := #[.val (.long p0), .second, .val (.long p1), .second, .val (.long p2), .second, .val (.long p3), .second, .val (.long p4), .second, .val (.long p5), .second, .val (.long v6), .second, .val (.long v13), .second, .val (.long v24), .second, .val (.long v51), .second, .val (.double (FP.ddiv (FP.l2d v51) (FP.l2d v6))), .second, .val (.double (FP.l2d v13)), .second, .val (.double (FP.dadd (FP.l2d v13) 4602678819172646912)), .second, .val (.int (1 : Int32)), .val (.int (1 : Int32)), .val (.int (1 : Int32)), .val (.int (1 : Int32)), .val (.long r230), .second, .val (.long r242), .second, .val (.long r254), .second, .val (.long r263), .second, .unset, .unset, .unset, .unset, .unset, .unset, .unset, .unset, .unset, .unset, .unset, .unset, .unset, .unset, .unset, .unset]) (hb hby at_266) rfl rfl ?_
      refine g_lload X63 hx (hb hby at_268) rfl rfl ?_
      refine g_lload X63 hx (hb hby at_270) rfl rfl ?_
      refine g_static X63 hx hZ hown (hw _ (List.mem_of_getElem? (i := 23) rfl)) (hw _ (List.mem_of_getElem? (i := 24) rfl)) (hw _ (List.mem_of_getElem? (i := 25) rfl)) (hw _ (List.mem_of_getElem? (i := 26) rfl)) (by decide) (rm_maxJ l Z a0 hw r230 r242 T58.heap n0 Z58) (by rw [hml]; rfl) eh63 [(.long r230), (.long r242)] rfl rfl (W := 0) (Nat.le_of_eq rfl) (by decide) (by decide) (by decide) (by decide) (lenOf pd_2 rfl) (hb hby at_272) rfl fun v64 T64 L64 X64 hQ64 => ?_
      obtain ⟨rfl, Nq64, eh64⟩ := hQ64
      have N64 := Fr.app N63 Nq64
      show Ga _ _ _ _ _ _ _ _ _ _ _ [(.long (if r230 < r242 then r242 else r230))]
      generalize hr272 : (if r230 < r242 then r242 else r230) = r272
      refine g_lstore X64 hx (Ls' := #[.val (.long p0), .second, .val (.long p1), .second, .val (.long p2), .second, .val (.long p3), .second, .val (.long p4), .second, .val (.long p5), .second, .val (.long v6), .second, .val (.long v13), .second, .val (.long v24), .second, .val (.long v51), .second, .val (.double (FP.ddiv (FP.l2d v51) (FP.l2d v6))), .second, .val (.double (FP.l2d v13)), .second, .val (.double (FP.dadd (FP.l2d v13) 4602678819172646912)), .second, .val (.int (1 : Int32)), .val (.int (1 : Int32)), .val (.int (1 : Int32)), .val (.int (1 : Int32)), .val (.long r230), .second, .val (.long r242), .second, .val (.long r254), .second, .val (.long r263), .second, .val (.long r272), .second, .unset, .unset, .unset, .unset, .unset, .unset, .unset, .unset, .unset, .unset, .unset, .unset, .unset, .unset]) (hb hby at_275) rfl rfl ?_
      have hu := own_max1 hr230
      have hv := own_max1 hr242
      have hw1 := own_max1 hr254
      have hlo := own_min2 hr263 hu hv
      have hhi := own_max2 hr272 hu hv
      have qa5 := own_416x hlo.1 hhi.1 hw1 (Int.le_trans hlo.2.1 hhi.2.1)
      refine g_new X64 hx hZ hown (hw _ (List.mem_of_getElem? (i := 3) rfl)) (hw _ (List.mem_of_getElem? (i := 4) rfl)) (hw _ (List.mem_of_getElem? (i := 5) rfl)) eh64 (hb hby at_277) rfl (by decide) (by decide) fun T65 h65 b65 X65 e65 q65 E65 A65 D65 => ?_
      have ne_b57_b65 : b57 ≠ b65 := own_ne p58_0.lt q65
      have g_b65 : n0 ≤ b65 := Nat.le_trans Z58 (Nat.le_of_eq q65.symm)
      have Z65 : n0 ≤ h65.size := Nat.le_trans Z58 E65.1
      have F65_quotaMicros : Fld Z h65 b65 "com/example/ely/ely/probe/CpuQuota" "quotaMicros" "J" (.long (0 : Int64)) := D65 (Or.inr (hw _ (List.mem_of_getElem? (i := 13) rfl))) (ty := .long) (by decide)
      have F65_periodMicros : Fld Z h65 b65 "com/example/ely/ely/probe/CpuQuota" "periodMicros" "J" (.long (0 : Int64)) := D65 (Or.inr (hw _ (List.mem_of_getElem? (i := 15) rfl))) (ty := .long) (by decide)
      refine g_dup X65 hx (hb hby at_280) rfl rfl ?_
      refine g_lload X65 hx (hb hby at_281) rfl rfl ?_
      refine g_lload X65 hx (hb hby at_283) rfl rfl ?_
      refine g_special X65 hx hZ hown rfl (hw _ (List.mem_of_getElem? (i := 6) rfl)) (hw _ (List.mem_of_getElem? (i := 7) rfl)) (hw _ (List.mem_of_getElem? (i := 5) rfl)) (hw _ (List.mem_of_getElem? (i := 8) rfl)) (by decide) (a := b65) (rm_cqini l Z a0 hw b65 r263 r254 h65 n0 Z65 F65_quotaMicros F65_periodMicros A65 g_b65 (own_pos416 (Int.lt_of_lt_of_le Int.zero_lt_one hlo.1)) (own_pos416 (Int.lt_of_lt_of_le Int.zero_lt_one hw1))) (by rw [hml]; rfl) e65 [(.long r263), (.long r254)] rfl rfl (W := 1) (Nat.le_of_eq rfl) (by decide) (by decide) (by decide) (by decide) (lenOf pd_0 rfl) (hb hby at_285) rfl fun v66 T66 L66 X66 hQ66 => ?_
      obtain ⟨rfl, Nq66, kc66, p66_0, p66_1, p66_2⟩ := hQ66
      have N66 := Fr.app N64 Nq66
      have Z66 : n0 ≤ T66.heap.size := Nat.le_trans Z65 kc66.1
      show Ga _ _ _ _ _ _ _ _ _ _ _ [(.ref b65)]
      refine g_virtual X66 hx hZ hown (hw _ (List.mem_of_getElem? (i := 16) rfl)) (hw _ (List.mem_of_getElem? (i := 17) rfl)) (notFace_of_selects (args := #[]) (mvT hZ (hw _ (List.mem_of_getElem? (i := 19) rfl)))) (hw _ (List.mem_of_getElem? (i := 19) rfl)) (hw _ (List.mem_of_getElem? (i := 18) rfl)) (hw _ (List.mem_of_getElem? (i := 5) rfl)) (hw _ (List.mem_of_getElem? (i := 20) rfl)) (by decide) (a := b65) p66_0 (rm_cpus l Z a0 hw b65 r263 r254 T66.heap n0 Z66 p66_1 p66_2 qa5.1) (by rw [hml]; rfl) rfl [] rfl rfl (W := 0) (Nat.le_of_eq rfl) (by decide) (by decide) (by decide) (by decide) (lenOf pd_1 rfl) (hb hby at_288) rfl fun v67 T67 L67 X67 hQ67 => ?_
      obtain ⟨rfl, Nq67, eh67⟩ := hQ67
      have N67 := Fr.app N66 Nq67
      show Ga _ _ _ _ _ _ _ _ _ _ _ [(.double (FP.ddiv (FP.l2d r263) (FP.l2d r254)))]
      refine g_dstore X67 hx (Ls' := #[.val (.long p0), .second, .val (.long p1), .second, .val (.long p2), .second, .val (.long p3), .second, .val (.long p4), .second, .val (.long p5), .second, .val (.long v6), .second, .val (.long v13), .second, .val (.long v24), .second, .val (.long v51), .second, .val (.double (FP.ddiv (FP.l2d v51) (FP.l2d v6))), .second, .val (.double (FP.l2d v13)), .second, .val (.double (FP.dadd (FP.l2d v13) 4602678819172646912)), .second, .val (.int (1 : Int32)), .val (.int (1 : Int32)), .val (.int (1 : Int32)), .val (.int (1 : Int32)), .val (.long r230), .second, .val (.long r242), .second, .val (.long r254), .second, .val (.long r263), .second, .val (.long r272), .second, .val (.double (FP.ddiv (FP.l2d r263) (FP.l2d r254))), .second, .unset, .unset, .unset, .unset, .unset, .unset, .unset, .unset, .unset, .unset, .unset, .unset]) (hb hby at_291) rfl rfl ?_
      have f69 : Exa Z T66.heap b57 "com/example/ely/ely/probe/CpuQuota" := ((p58_0.ext E65).keep kc66)
      refine g_new X67 hx hZ hown (hw _ (List.mem_of_getElem? (i := 3) rfl)) (hw _ (List.mem_of_getElem? (i := 4) rfl)) (hw _ (List.mem_of_getElem? (i := 5) rfl)) eh67 (hb hby at_293) rfl (by decide) (by decide) fun T68 h68 b68 X68 e68 q68 E68 A68 D68 => ?_
      have ne_b57_b68 : b57 ≠ b68 := own_ne f69.lt q68
      have ne_b65_b68 : b65 ≠ b68 := own_ne p66_0.lt q68
      have g_b68 : n0 ≤ b68 := Nat.le_trans Z66 (Nat.le_of_eq q68.symm)
      have Z68 : n0 ≤ h68.size := Nat.le_trans Z66 E68.1
      have F68_quotaMicros : Fld Z h68 b68 "com/example/ely/ely/probe/CpuQuota" "quotaMicros" "J" (.long (0 : Int64)) := D68 (Or.inr (hw _ (List.mem_of_getElem? (i := 13) rfl))) (ty := .long) (by decide)
      have F68_periodMicros : Fld Z h68 b68 "com/example/ely/ely/probe/CpuQuota" "periodMicros" "J" (.long (0 : Int64)) := D68 (Or.inr (hw _ (List.mem_of_getElem? (i := 15) rfl))) (ty := .long) (by decide)
      refine g_dup X68 hx (hb hby at_296) rfl rfl ?_
      refine g_lload X68 hx (hb hby at_297) rfl rfl ?_
      refine g_lload X68 hx (hb hby at_299) rfl rfl ?_
      refine g_special X68 hx hZ hown rfl (hw _ (List.mem_of_getElem? (i := 6) rfl)) (hw _ (List.mem_of_getElem? (i := 7) rfl)) (hw _ (List.mem_of_getElem? (i := 5) rfl)) (hw _ (List.mem_of_getElem? (i := 8) rfl)) (by decide) (a := b68) (rm_cqini l Z a0 hw b68 r272 r254 h68 n0 Z68 F68_quotaMicros F68_periodMicros A68 g_b68 (own_pos416 (Int.lt_of_lt_of_le Int.zero_lt_one hhi.1)) (own_pos416 (Int.lt_of_lt_of_le Int.zero_lt_one hw1))) (by rw [hml]; rfl) e68 [(.long r272), (.long r254)] rfl rfl (W := 1) (Nat.le_of_eq rfl) (by decide) (by decide) (by decide) (by decide) (lenOf pd_0 rfl) (hb hby at_301) rfl fun v70 T70 L70 X70 hQ70 => ?_
      obtain ⟨rfl, Nq70, kc70, p70_0, p70_1, p70_2⟩ := hQ70
      have N70 := Fr.app N67 Nq70
      have Z70 : n0 ≤ T70.heap.size := Nat.le_trans Z68 kc70.1
      show Ga _ _ _ _ _ _ _ _ _ _ _ [(.ref b68)]
      refine g_virtual X70 hx hZ hown (hw _ (List.mem_of_getElem? (i := 16) rfl)) (hw _ (List.mem_of_getElem? (i := 17) rfl)) (notFace_of_selects (args := #[]) (mvT hZ (hw _ (List.mem_of_getElem? (i := 19) rfl)))) (hw _ (List.mem_of_getElem? (i := 19) rfl)) (hw _ (List.mem_of_getElem? (i := 18) rfl)) (hw _ (List.mem_of_getElem? (i := 5) rfl)) (hw _ (List.mem_of_getElem? (i := 20) rfl)) (by decide) (a := b68) p70_0 (rm_cpus l Z a0 hw b68 r272 r254 T70.heap n0 Z70 p70_1 p70_2 qa5.2.1) (by rw [hml]; rfl) rfl [] rfl rfl (W := 0) (Nat.le_of_eq rfl) (by decide) (by decide) (by decide) (by decide) (lenOf pd_1 rfl) (hb hby at_304) rfl fun v71 T71 L71 X71 hQ71 => ?_
      obtain ⟨rfl, Nq71, eh71⟩ := hQ71
      have N71 := Fr.app N70 Nq71
      show Ga _ _ _ _ _ _ _ _ _ _ _ [(.double (FP.ddiv (FP.l2d r272) (FP.l2d r254)))]
      refine g_dstore X71 hx (Ls' := #[.val (.long p0), .second, .val (.long p1), .second, .val (.long p2), .second, .val (.long p3), .second, .val (.long p4), .second, .val (.long p5), .second, .val (.long v6), .second, .val (.long v13), .second, .val (.long v24), .second, .val (.long v51), .second, .val (.double (FP.ddiv (FP.l2d v51) (FP.l2d v6))), .second, .val (.double (FP.l2d v13)), .second, .val (.double (FP.dadd (FP.l2d v13) 4602678819172646912)), .second, .val (.int (1 : Int32)), .val (.int (1 : Int32)), .val (.int (1 : Int32)), .val (.int (1 : Int32)), .val (.long r230), .second, .val (.long r242), .second, .val (.long r254), .second, .val (.long r263), .second, .val (.long r272), .second, .val (.double (FP.ddiv (FP.l2d r263) (FP.l2d r254))), .second, .val (.double (FP.ddiv (FP.l2d r272) (FP.l2d r254))), .second, .unset, .unset, .unset, .unset, .unset, .unset, .unset, .unset, .unset, .unset]) (hb hby at_307) rfl rfl ?_
      refine g_dload X71 hx (hb hby at_309) rfl rfl ?_
      refine g_dconst0 X71 hx (hb hby at_311) rfl  ?_
      refine g_dcmp X71 hx (hb hby at_312) rfl  ?_
      have hc313 : (0 : Int32) < (cmpValue (FP.dcmp (FP.ddiv (FP.l2d r263) (FP.l2d r254)) FP.dconst0) .l) := qa5.2.2.1
      refine g_ifN X71 hx (hb hby at_313) rfl (XT.i0_le_f hc313) ?_
      refine g_dload X71 hx (hb hby at_316) rfl rfl ?_
      refine g_lload X71 hx (hb hby at_318) rfl rfl ?_
      refine g_l2d X71 hx (hb hby at_320) rfl  ?_
      refine g_dcmp X71 hx (hb hby at_321) rfl  ?_
      have hc322 : ¬ (0 : Int32) < (cmpValue (FP.dcmp (FP.ddiv (FP.l2d r263) (FP.l2d r254)) (FP.l2d r263)) .g) := qa5.2.2.2.1
      refine g_ifN X71 hx (hb hby at_322) rfl (XT.i0_gt_f hc322) ?_
      refine g_dload X71 hx (hb hby at_325) rfl rfl ?_
      refine g_dload X71 hx (hb hby at_327) rfl rfl ?_
      refine g_dcmp X71 hx (hb hby at_329) rfl  ?_
      have hc330 : ¬ (0 : Int32) < (cmpValue (FP.dcmp (FP.ddiv (FP.l2d r263) (FP.l2d r254)) (FP.ddiv (FP.l2d r272) (FP.l2d r254))) .g) := qa5.2.2.2.2
      refine g_ifN X71 hx (hb hby at_330) rfl (XT.i0_gt_f hc330) ?_
      refine g_iconst X71 hx (r := (1 : Int32)) (hb hby at_333) rfl rfl ?_
      refine g_goto X71 hx (q := 338) (hb hby at_334) (by decide) (by decide) ?_
      refine g_istore X71 hx (Ls' := #[.val (.long p0), .second, .val (.long p1), .second, .val (.long p2), .second, .val (.long p3), .second, .val (.long p4), .second, .val (.long p5), .second, .val (.long v6), .second, .val (.long v13), .second, .val (.long v24), .second, .val (.long v51), .second, .val (.double (FP.ddiv (FP.l2d v51) (FP.l2d v6))), .second, .val (.double (FP.l2d v13)), .second, .val (.double (FP.dadd (FP.l2d v13) 4602678819172646912)), .second, .val (.int (1 : Int32)), .val (.int (1 : Int32)), .val (.int (1 : Int32)), .val (.int (1 : Int32)), .val (.long r230), .second, .val (.long r242), .second, .val (.long r254), .second, .val (.long r263), .second, .val (.long r272), .second, .val (.double (FP.ddiv (FP.l2d r263) (FP.l2d r254))), .second, .val (.double (FP.ddiv (FP.l2d r272) (FP.l2d r254))), .second, .val (.int (1 : Int32)), .unset, .unset, .unset, .unset, .unset, .unset, .unset, .unset, .unset]) (hb hby at_338) rfl rfl ?_
      refine g_lload X71 hx (hb hby at_340) rfl rfl ?_
      refine g_lload X71 hx (hb hby at_342) rfl rfl ?_
      refine g_static X71 hx hZ hown (hw _ (List.mem_of_getElem? (i := 27) rfl)) (hw _ (List.mem_of_getElem? (i := 28) rfl)) (hw _ (List.mem_of_getElem? (i := 25) rfl)) (hw _ (List.mem_of_getElem? (i := 29) rfl)) (by decide) (rm_minJ l Z a0 hw r254 r242 T70.heap n0 Z70) (by rw [hml]; rfl) eh71 [(.long r254), (.long r242)] rfl rfl (W := 0) (Nat.le_of_eq rfl) (by decide) (by decide) (by decide) (by decide) (lenOf pd_2 rfl) (hb hby at_344) rfl fun v72 T72 L72 X72 hQ72 => ?_
      obtain ⟨rfl, Nq72, eh72⟩ := hQ72
      have N72 := Fr.app N71 Nq72
      show Ga _ _ _ _ _ _ _ _ _ _ _ [(.long (if r242 < r254 then r242 else r254))]
      generalize hr344 : (if r242 < r254 then r242 else r254) = r344
      refine g_lstore X72 hx (Ls' := #[.val (.long p0), .second, .val (.long p1), .second, .val (.long p2), .second, .val (.long p3), .second, .val (.long p4), .second, .val (.long p5), .second, .val (.long v6), .second, .val (.long v13), .second, .val (.long v24), .second, .val (.long v51), .second, .val (.double (FP.ddiv (FP.l2d v51) (FP.l2d v6))), .second, .val (.double (FP.l2d v13)), .second, .val (.double (FP.dadd (FP.l2d v13) 4602678819172646912)), .second, .val (.int (1 : Int32)), .val (.int (1 : Int32)), .val (.int (1 : Int32)), .val (.int (1 : Int32)), .val (.long r230), .second, .val (.long r242), .second, .val (.long r254), .second, .val (.long r263), .second, .val (.long r272), .second, .val (.double (FP.ddiv (FP.l2d r263) (FP.l2d r254))), .second, .val (.double (FP.ddiv (FP.l2d r272) (FP.l2d r254))), .second, .val (.int (1 : Int32)), .val (.long r344), .second, .unset, .unset, .unset, .unset, .unset, .unset, .unset]) (hb hby at_347) rfl rfl ?_
      refine g_lload X72 hx (hb hby at_349) rfl rfl ?_
      refine g_lload X72 hx (hb hby at_351) rfl rfl ?_
      refine g_static X72 hx hZ hown (hw _ (List.mem_of_getElem? (i := 23) rfl)) (hw _ (List.mem_of_getElem? (i := 24) rfl)) (hw _ (List.mem_of_getElem? (i := 25) rfl)) (hw _ (List.mem_of_getElem? (i := 26) rfl)) (by decide) (rm_maxJ l Z a0 hw r254 r242 T70.heap n0 Z70) (by rw [hml]; rfl) eh72 [(.long r254), (.long r242)] rfl rfl (W := 0) (Nat.le_of_eq rfl) (by decide) (by decide) (by decide) (by decide) (lenOf pd_2 rfl) (hb hby at_353) rfl fun v73 T73 L73 X73 hQ73 => ?_
      obtain ⟨rfl, Nq73, eh73⟩ := hQ73
      have N73 := Fr.app N72 Nq73
      show Ga _ _ _ _ _ _ _ _ _ _ _ [(.long (if r254 < r242 then r242 else r254))]
      generalize hr353 : (if r254 < r242 then r242 else r254) = r353
      refine g_lstore X73 hx (Ls' := #[.val (.long p0), .second, .val (.long p1), .second, .val (.long p2), .second, .val (.long p3), .second, .val (.long p4), .second, .val (.long p5), .second, .val (.long v6), .second, .val (.long v13), .second, .val (.long v24), .second, .val (.long v51), .second, .val (.double (FP.ddiv (FP.l2d v51) (FP.l2d v6))), .second, .val (.double (FP.l2d v13)), .second, .val (.double (FP.dadd (FP.l2d v13) 4602678819172646912)), .second, .val (.int (1 : Int32)), .val (.int (1 : Int32)), .val (.int (1 : Int32)), .val (.int (1 : Int32)), .val (.long r230), .second, .val (.long r242), .second, .val (.long r254), .second, .val (.long r263), .second, .val (.long r272), .second, .val (.double (FP.ddiv (FP.l2d r263) (FP.l2d r254))), .second, .val (.double (FP.ddiv (FP.l2d r272) (FP.l2d r254))), .second, .val (.int (1 : Int32)), .val (.long r344), .second, .val (.long r353), .second, .unset, .unset, .unset, .unset, .unset]) (hb hby at_356) rfl rfl ?_
      have hpl := own_min2 hr344 hw1 hv
      have hph := own_max2 hr353 hw1 hv
      have qa6 := own_416t hu hpl.1 hph.1 (Int.le_trans hpl.2.1 hph.2.1)
      have f75 : Exa Z T70.heap b57 "com/example/ely/ely/probe/CpuQuota" := ((f69.ext E68).keep kc70)
      have f76 : Exa Z T70.heap b65 "com/example/ely/ely/probe/CpuQuota" := ((p66_0.ext E68).keep kc70)
      refine g_new X73 hx hZ hown (hw _ (List.mem_of_getElem? (i := 3) rfl)) (hw _ (List.mem_of_getElem? (i := 4) rfl)) (hw _ (List.mem_of_getElem? (i := 5) rfl)) eh73 (hb hby at_358) rfl (by decide) (by decide) fun T74 h74 b74 X74 e74 q74 E74 A74 D74 => ?_
      have ne_b57_b74 : b57 ≠ b74 := own_ne f75.lt q74
      have ne_b65_b74 : b65 ≠ b74 := own_ne f76.lt q74
      have ne_b68_b74 : b68 ≠ b74 := own_ne p70_0.lt q74
      have g_b74 : n0 ≤ b74 := Nat.le_trans Z70 (Nat.le_of_eq q74.symm)
      have Z74 : n0 ≤ h74.size := Nat.le_trans Z70 E74.1
      have F74_quotaMicros : Fld Z h74 b74 "com/example/ely/ely/probe/CpuQuota" "quotaMicros" "J" (.long (0 : Int64)) := D74 (Or.inr (hw _ (List.mem_of_getElem? (i := 13) rfl))) (ty := .long) (by decide)
      have F74_periodMicros : Fld Z h74 b74 "com/example/ely/ely/probe/CpuQuota" "periodMicros" "J" (.long (0 : Int64)) := D74 (Or.inr (hw _ (List.mem_of_getElem? (i := 15) rfl))) (ty := .long) (by decide)
      refine g_dup X74 hx (hb hby at_361) rfl rfl ?_
      refine g_lload X74 hx (hb hby at_362) rfl rfl ?_
      refine g_lload X74 hx (hb hby at_364) rfl rfl ?_
      refine g_special X74 hx hZ hown rfl (hw _ (List.mem_of_getElem? (i := 6) rfl)) (hw _ (List.mem_of_getElem? (i := 7) rfl)) (hw _ (List.mem_of_getElem? (i := 5) rfl)) (hw _ (List.mem_of_getElem? (i := 8) rfl)) (by decide) (a := b74) (rm_cqini l Z a0 hw b74 r230 r344 h74 n0 Z74 F74_quotaMicros F74_periodMicros A74 g_b74 (own_pos416 (Int.lt_of_lt_of_le Int.zero_lt_one hu)) (own_pos416 (Int.lt_of_lt_of_le Int.zero_lt_one hpl.1))) (by rw [hml]; rfl) e74 [(.long r230), (.long r344)] rfl rfl (W := 1) (Nat.le_of_eq rfl) (by decide) (by decide) (by decide) (by decide) (lenOf pd_0 rfl) (hb hby at_366) rfl fun v77 T77 L77 X77 hQ77 => ?_
      obtain ⟨rfl, Nq77, kc77, p77_0, p77_1, p77_2⟩ := hQ77
      have N77 := Fr.app N73 Nq77
      have Z77 : n0 ≤ T77.heap.size := Nat.le_trans Z74 kc77.1
      show Ga _ _ _ _ _ _ _ _ _ _ _ [(.ref b74)]
      refine g_virtual X77 hx hZ hown (hw _ (List.mem_of_getElem? (i := 16) rfl)) (hw _ (List.mem_of_getElem? (i := 17) rfl)) (notFace_of_selects (args := #[]) (mvT hZ (hw _ (List.mem_of_getElem? (i := 19) rfl)))) (hw _ (List.mem_of_getElem? (i := 19) rfl)) (hw _ (List.mem_of_getElem? (i := 18) rfl)) (hw _ (List.mem_of_getElem? (i := 5) rfl)) (hw _ (List.mem_of_getElem? (i := 20) rfl)) (by decide) (a := b74) p77_0 (rm_cpus l Z a0 hw b74 r230 r344 T77.heap n0 Z77 p77_1 p77_2 qa6.1) (by rw [hml]; rfl) rfl [] rfl rfl (W := 0) (Nat.le_of_eq rfl) (by decide) (by decide) (by decide) (by decide) (lenOf pd_1 rfl) (hb hby at_369) rfl fun v78 T78 L78 X78 hQ78 => ?_
      obtain ⟨rfl, Nq78, eh78⟩ := hQ78
      have N78 := Fr.app N77 Nq78
      show Ga _ _ _ _ _ _ _ _ _ _ _ [(.double (FP.ddiv (FP.l2d r230) (FP.l2d r344)))]
      refine g_dstore X78 hx (Ls' := #[.val (.long p0), .second, .val (.long p1), .second, .val (.long p2), .second, .val (.long p3), .second, .val (.long p4), .second, .val (.long p5), .second, .val (.long v6), .second, .val (.long v13), .second, .val (.long v24), .second, .val (.long v51), .second, .val (.double (FP.ddiv (FP.l2d v51) (FP.l2d v6))), .second, .val (.double (FP.l2d v13)), .second, .val (.double (FP.dadd (FP.l2d v13) 4602678819172646912)), .second, .val (.int (1 : Int32)), .val (.int (1 : Int32)), .val (.int (1 : Int32)), .val (.int (1 : Int32)), .val (.long r230), .second, .val (.long r242), .second, .val (.long r254), .second, .val (.long r263), .second, .val (.long r272), .second, .val (.double (FP.ddiv (FP.l2d r263) (FP.l2d r254))), .second, .val (.double (FP.ddiv (FP.l2d r272) (FP.l2d r254))), .second, .val (.int (1 : Int32)), .val (.long r344), .second, .val (.long r353), .second, .val (.double (FP.ddiv (FP.l2d r230) (FP.l2d r344))), .second, .unset, .unset, .unset]) (hb hby at_372) rfl rfl ?_
      have f80 : Exa Z T77.heap b57 "com/example/ely/ely/probe/CpuQuota" := ((f75.ext E74).keep kc77)
      have f81 : Exa Z T77.heap b65 "com/example/ely/ely/probe/CpuQuota" := ((f76.ext E74).keep kc77)
      have f82 : Exa Z T77.heap b68 "com/example/ely/ely/probe/CpuQuota" := ((p70_0.ext E74).keep kc77)
      refine g_new X78 hx hZ hown (hw _ (List.mem_of_getElem? (i := 3) rfl)) (hw _ (List.mem_of_getElem? (i := 4) rfl)) (hw _ (List.mem_of_getElem? (i := 5) rfl)) eh78 (hb hby at_374) rfl (by decide) (by decide) fun T79 h79 b79 X79 e79 q79 E79 A79 D79 => ?_
      have ne_b57_b79 : b57 ≠ b79 := own_ne f80.lt q79
      have ne_b65_b79 : b65 ≠ b79 := own_ne f81.lt q79
      have ne_b68_b79 : b68 ≠ b79 := own_ne f82.lt q79
      have ne_b74_b79 : b74 ≠ b79 := own_ne p77_0.lt q79
      have g_b79 : n0 ≤ b79 := Nat.le_trans Z77 (Nat.le_of_eq q79.symm)
      have Z79 : n0 ≤ h79.size := Nat.le_trans Z77 E79.1
      have F79_quotaMicros : Fld Z h79 b79 "com/example/ely/ely/probe/CpuQuota" "quotaMicros" "J" (.long (0 : Int64)) := D79 (Or.inr (hw _ (List.mem_of_getElem? (i := 13) rfl))) (ty := .long) (by decide)
      have F79_periodMicros : Fld Z h79 b79 "com/example/ely/ely/probe/CpuQuota" "periodMicros" "J" (.long (0 : Int64)) := D79 (Or.inr (hw _ (List.mem_of_getElem? (i := 15) rfl))) (ty := .long) (by decide)
      refine g_dup X79 hx (hb hby at_377) rfl rfl ?_
      refine g_lload X79 hx (hb hby at_378) rfl rfl ?_
      refine g_lload X79 hx (hb hby at_380) rfl rfl ?_
      refine g_special X79 hx hZ hown rfl (hw _ (List.mem_of_getElem? (i := 6) rfl)) (hw _ (List.mem_of_getElem? (i := 7) rfl)) (hw _ (List.mem_of_getElem? (i := 5) rfl)) (hw _ (List.mem_of_getElem? (i := 8) rfl)) (by decide) (a := b79) (rm_cqini l Z a0 hw b79 r230 r353 h79 n0 Z79 F79_quotaMicros F79_periodMicros A79 g_b79 (own_pos416 (Int.lt_of_lt_of_le Int.zero_lt_one hu)) (own_pos416 (Int.lt_of_lt_of_le Int.zero_lt_one hph.1))) (by rw [hml]; rfl) e79 [(.long r230), (.long r353)] rfl rfl (W := 1) (Nat.le_of_eq rfl) (by decide) (by decide) (by decide) (by decide) (lenOf pd_0 rfl) (hb hby at_382) rfl fun v83 T83 L83 X83 hQ83 => ?_
      obtain ⟨rfl, Nq83, kc83, p83_0, p83_1, p83_2⟩ := hQ83
      have N83 := Fr.app N78 Nq83
      have Z83 : n0 ≤ T83.heap.size := Nat.le_trans Z79 kc83.1
      show Ga _ _ _ _ _ _ _ _ _ _ _ [(.ref b79)]
      refine g_virtual X83 hx hZ hown (hw _ (List.mem_of_getElem? (i := 16) rfl)) (hw _ (List.mem_of_getElem? (i := 17) rfl)) (notFace_of_selects (args := #[]) (mvT hZ (hw _ (List.mem_of_getElem? (i := 19) rfl)))) (hw _ (List.mem_of_getElem? (i := 19) rfl)) (hw _ (List.mem_of_getElem? (i := 18) rfl)) (hw _ (List.mem_of_getElem? (i := 5) rfl)) (hw _ (List.mem_of_getElem? (i := 20) rfl)) (by decide) (a := b79) p83_0 (rm_cpus l Z a0 hw b79 r230 r353 T83.heap n0 Z83 p83_1 p83_2 qa6.2.1) (by rw [hml]; rfl) rfl [] rfl rfl (W := 0) (Nat.le_of_eq rfl) (by decide) (by decide) (by decide) (by decide) (lenOf pd_1 rfl) (hb hby at_385) rfl fun v84 T84 L84 X84 hQ84 => ?_
      obtain ⟨rfl, Nq84, eh84⟩ := hQ84
      have N84 := Fr.app N83 Nq84
      show Ga _ _ _ _ _ _ _ _ _ _ _ [(.double (FP.ddiv (FP.l2d r230) (FP.l2d r353)))]
      refine g_dstore X84 hx (Ls' := #[.val (.long p0), .second, .val (.long p1), .second, .val (.long p2), .second, .val (.long p3), .second, .val (.long p4), .second, .val (.long p5), .second, .val (.long v6), .second, .val (.long v13), .second, .val (.long v24), .second, .val (.long v51), .second, .val (.double (FP.ddiv (FP.l2d v51) (FP.l2d v6))), .second, .val (.double (FP.l2d v13)), .second, .val (.double (FP.dadd (FP.l2d v13) 4602678819172646912)), .second, .val (.int (1 : Int32)), .val (.int (1 : Int32)), .val (.int (1 : Int32)), .val (.int (1 : Int32)), .val (.long r230), .second, .val (.long r242), .second, .val (.long r254), .second, .val (.long r263), .second, .val (.long r272), .second, .val (.double (FP.ddiv (FP.l2d r263) (FP.l2d r254))), .second, .val (.double (FP.ddiv (FP.l2d r272) (FP.l2d r254))), .second, .val (.int (1 : Int32)), .val (.long r344), .second, .val (.long r353), .second, .val (.double (FP.ddiv (FP.l2d r230) (FP.l2d r344))), .second, .val (.double (FP.ddiv (FP.l2d r230) (FP.l2d r353))), .second, .unset]) (hb hby at_388) rfl rfl ?_
      refine g_dload X84 hx (hb hby at_390) rfl rfl ?_
      refine g_dconst0 X84 hx (hb hby at_392) rfl  ?_
      refine g_dcmp X84 hx (hb hby at_393) rfl  ?_
      have hc394 : (0 : Int32) < (cmpValue (FP.dcmp (FP.ddiv (FP.l2d r230) (FP.l2d r353)) FP.dconst0) .l) := qa6.2.2.1
      refine g_ifN X84 hx (hb hby at_394) rfl (XT.i0_le_f hc394) ?_
      refine g_dload X84 hx (hb hby at_397) rfl rfl ?_
      refine g_dload X84 hx (hb hby at_399) rfl rfl ?_
      refine g_dcmp X84 hx (hb hby at_401) rfl  ?_
      have hc402 : ¬ (0 : Int32) < (cmpValue (FP.dcmp (FP.ddiv (FP.l2d r230) (FP.l2d r353)) (FP.ddiv (FP.l2d r230) (FP.l2d r344))) .g) := qa6.2.2.2
      refine g_ifN X84 hx (hb hby at_402) rfl (XT.i0_gt_f hc402) ?_
      refine g_iconst X84 hx (r := (1 : Int32)) (hb hby at_405) rfl rfl ?_
      refine g_goto X84 hx (q := 410) (hb hby at_406) (by decide) (by decide) ?_
      refine g_istore X84 hx (Ls' := #[.val (.long p0), .second, .val (.long p1), .second, .val (.long p2), .second, .val (.long p3), .second, .val (.long p4), .second, .val (.long p5), .second, .val (.long v6), .second, .val (.long v13), .second, .val (.long v24), .second, .val (.long v51), .second, .val (.double (FP.ddiv (FP.l2d v51) (FP.l2d v6))), .second, .val (.double (FP.l2d v13)), .second, .val (.double (FP.dadd (FP.l2d v13) 4602678819172646912)), .second, .val (.int (1 : Int32)), .val (.int (1 : Int32)), .val (.int (1 : Int32)), .val (.int (1 : Int32)), .val (.long r230), .second, .val (.long r242), .second, .val (.long r254), .second, .val (.long r263), .second, .val (.long r272), .second, .val (.double (FP.ddiv (FP.l2d r263) (FP.l2d r254))), .second, .val (.double (FP.ddiv (FP.l2d r272) (FP.l2d r254))), .second, .val (.int (1 : Int32)), .val (.long r344), .second, .val (.long r353), .second, .val (.double (FP.ddiv (FP.l2d r230) (FP.l2d r344))), .second, .val (.double (FP.ddiv (FP.l2d r230) (FP.l2d r353))), .second, .val (.int (1 : Int32))]) (hb hby at_410) rfl rfl ?_
      refine g_iload X84 hx (hb hby at_412) rfl rfl ?_
      refine g_ifN X84 hx (hb hby at_414) rfl (XT.i0_eq_f (by decide : ¬ (1 : Int32) = (0 : Int32))) ?_
      refine g_iload X84 hx (hb hby at_417) rfl rfl ?_
      refine g_ifN X84 hx (hb hby at_419) rfl (XT.i0_eq_f (by decide : ¬ (1 : Int32) = (0 : Int32))) ?_
      refine g_iload X84 hx (hb hby at_422) rfl rfl ?_
      refine g_ifN X84 hx (hb hby at_424) rfl (XT.i0_eq_f (by decide : ¬ (1 : Int32) = (0 : Int32))) ?_
      refine g_iload X84 hx (hb hby at_427) rfl rfl ?_
      refine g_ifN X84 hx (hb hby at_429) rfl (XT.i0_eq_f (by decide : ¬ (1 : Int32) = (0 : Int32))) ?_
      refine g_iload X84 hx (hb hby at_432) rfl rfl ?_
      refine g_ifN X84 hx (hb hby at_434) rfl (XT.i0_eq_f (by decide : ¬ (1 : Int32) = (0 : Int32))) ?_
      refine g_iload X84 hx (hb hby at_437) rfl rfl ?_
      refine g_ifN X84 hx (hb hby at_439) rfl (XT.i0_eq_f (by decide : ¬ (1 : Int32) = (0 : Int32))) ?_
      refine g_iconst X84 hx (r := (1 : Int32)) (hb hby at_442) rfl rfl ?_
      refine g_goto X84 hx (q := 447) (hb hby at_443) (by decide) (by decide) ?_
      exact g_retN X84 hx (t := .boolean) (r := (1 : Int32)) hret (by simp) hlk (hb hby at_447) rfl (by decide) (by decide) (by rw [eh84]; exact ⟨rfl, N84⟩)
    refine g_dload X59 hx (hb hby at_83) rfl rfl ?_
    refine g_dload X59 hx (hb hby at_85) rfl rfl ?_
    refine g_dcmp X59 hx (hb hby at_87) rfl  ?_
    have hc88 : ¬ (0 : Int32) < (cmpValue (FP.dcmp (FP.l2d v13) (FP.ddiv (FP.l2d v51) (FP.l2d v6))) .g) := qa4.2.2.2.2.1
    refine g_ifN X59 hx (hb hby at_88) rfl (XT.i0_gt_f hc88) ?_
    refine g_dload X59 hx (hb hby at_91) rfl rfl ?_
    refine g_dload X59 hx (hb hby at_93) rfl rfl ?_
    refine g_dconst1 X59 hx (hb hby at_95) rfl  ?_
    refine g_dadd X59 hx (hb hby at_96) rfl qa4.2.2.2.1 ?_
    refine g_dcmp X59 hx (hb hby at_97) rfl  ?_
    have hc98 : (cmpValue (FP.dcmp (FP.ddiv (FP.l2d v51) (FP.l2d v6)) (FP.dadd (FP.l2d v13) FP.dconst1)) .g) < (0 : Int32) := qa4.2.2.2.2.2.1
    refine g_ifN X59 hx (hb hby at_98) rfl (XT.i0_ge_f hc98) ?_
    refine g_iconst X59 hx (r := (1 : Int32)) (hb hby at_101) rfl rfl ?_
    refine g_goto X59 hx (q := 106) (hb hby at_102) (by decide) (by decide) ?_
    refine g_istore X59 hx (Ls' := #[.val (.long p0), .second, .val (.long p1), .second, .val (.long p2), .second, .val (.long p3), .second, .val (.long p4), .second, .val (.long p5), .second, .val (.long v6), .second, .val (.long v13), .second, .val (.long v24), .second, .val (.long v51), .second, .val (.double (FP.ddiv (FP.l2d v51) (FP.l2d v6))), .second, .val (.double (FP.l2d v13)), .second, .val (.double (FP.dadd (FP.l2d v13) 4602678819172646912)), .second, .val (.int (1 : Int32)), .unset, .unset, .unset, .unset, .unset, .unset, .unset, .unset, .unset, .unset, .unset, .unset, .unset, .unset, .unset, .unset, .unset, .unset, .unset, .unset, .unset, .unset, .unset, .unset, .unset, .unset, .unset]) (hb hby at_106) rfl rfl ?_
    refine g_lload X59 hx (hb hby at_108) rfl rfl ?_
    refine g_lconst X59 hx (r := (0 : Int64)) (hb hby at_110) rfl rfl ?_
    refine g_lcmp X59 hx (hb hby at_111) rfl  ?_
    by_cases hc112 : v24 = (0 : Int64)
    · skip
      refine g_ifN X59 hx (hb hby at_112) rfl (XT.ll_ne_f hc112) ?_
      refine g_iconst X59 hx (r := (1 : Int32)) (hb hby at_115) rfl rfl ?_
      refine g_goto X59 hx (q := 120) (hb hby at_116) (by decide) (by decide) ?_
      refine g_dload X59 hx (hb hby at_120) rfl rfl ?_
      refine g_dload X59 hx (hb hby at_122) rfl rfl ?_
      refine g_dcmp X59 hx (hb hby at_124) rfl  ?_
      have hc125 : (cmpValue (FP.dcmp (FP.ddiv (FP.l2d v51) (FP.l2d v6)) (FP.l2d v13)) .l) = (0 : Int32) := qa4.2.2.2.2.2.2.1 (by rw [hc112]; rfl)
      refine g_ifN X59 hx (hb hby at_125) rfl (XT.i0_ne_f hc125) ?_
      refine g_iconst X59 hx (r := (1 : Int32)) (hb hby at_128) rfl rfl ?_
      refine g_goto X59 hx (q := 133) (hb hby at_129) (by decide) (by decide) ?_
      refine g_icmpN X59 hx (hb hby at_133) rfl (XT.ii_ne_f (by decide : (1 : Int32) = (1 : Int32))) ?_
      refine g_iconst X59 hx (r := (1 : Int32)) (hb hby at_136) rfl rfl ?_
      refine g_goto X59 hx (q := 141) (hb hby at_137) (by decide) (by decide) ?_
      refine g_istore X59 hx (Ls' := #[.val (.long p0), .second, .val (.long p1), .second, .val (.long p2), .second, .val (.long p3), .second, .val (.long p4), .second, .val (.long p5), .second, .val (.long v6), .second, .val (.long v13), .second, .val (.long v24), .second, .val (.long v51), .second, .val (.double (FP.ddiv (FP.l2d v51) (FP.l2d v6))), .second, .val (.double (FP.l2d v13)), .second, .val (.double (FP.dadd (FP.l2d v13) 4602678819172646912)), .second, .val (.int (1 : Int32)), .val (.int (1 : Int32)), .unset, .unset, .unset, .unset, .unset, .unset, .unset, .unset, .unset, .unset, .unset, .unset, .unset, .unset, .unset, .unset, .unset, .unset, .unset, .unset, .unset, .unset, .unset, .unset, .unset, .unset]) (hb hby at_141) rfl rfl ?_
      refine g_ldc2 X59 hx hZ hown (hw _ (List.mem_of_getElem? (i := 22) rfl)) (hb hby at_143) rfl ?_
      refine g_lload X59 hx (hb hby at_146) rfl rfl ?_
      refine g_lmul X59 hx (hb hby at_148) rfl rfl ?_
      refine g_lload X59 hx (hb hby at_149) rfl rfl ?_
      refine g_lcmp X59 hx (hb hby at_151) rfl  ?_
      by_cases hc152 : ((2 : Int64) * v24) < v6
      · skip
        refine g_ifN X59 hx (hb hby at_152) rfl (XT.ll_ge_f hc152) ?_
        refine g_iconst X59 hx (r := (1 : Int32)) (hb hby at_155) rfl rfl ?_
        refine g_goto X59 hx (q := 160) (hb hby at_156) (by decide) (by decide) ?_
        refine g_dload X59 hx (hb hby at_160) rfl rfl ?_
        refine g_dload X59 hx (hb hby at_162) rfl rfl ?_
        refine g_dcmp X59 hx (hb hby at_164) rfl  ?_
        have hc165 : (cmpValue (FP.dcmp (FP.ddiv (FP.l2d v51) (FP.l2d v6)) (FP.dadd (FP.l2d v13) 4602678819172646912)) .g) < (0 : Int32) := qa4.2.2.2.2.2.2.2.2.1 (by rw [← h2r]; exact own_lt64.mp hc152)
        refine g_ifN X59 hx (hb hby at_165) rfl (XT.i0_ge_f hc165) ?_
        refine g_iconst X59 hx (r := (1 : Int32)) (hb hby at_168) rfl rfl ?_
        refine g_goto X59 hx (q := 173) (hb hby at_169) (by decide) (by decide) ?_
        refine g_icmpN X59 hx (hb hby at_173) rfl (XT.ii_ne_f (by decide : (1 : Int32) = (1 : Int32))) ?_
        refine g_iconst X59 hx (r := (1 : Int32)) (hb hby at_176) rfl rfl ?_
        refine g_goto X59 hx (q := 181) (hb hby at_177) (by decide) (by decide) ?_
        refine g_istore X59 hx (Ls' := #[.val (.long p0), .second, .val (.long p1), .second, .val (.long p2), .second, .val (.long p3), .second, .val (.long p4), .second, .val (.long p5), .second, .val (.long v6), .second, .val (.long v13), .second, .val (.long v24), .second, .val (.long v51), .second, .val (.double (FP.ddiv (FP.l2d v51) (FP.l2d v6))), .second, .val (.double (FP.l2d v13)), .second, .val (.double (FP.dadd (FP.l2d v13) 4602678819172646912)), .second, .val (.int (1 : Int32)), .val (.int (1 : Int32)), .val (.int (1 : Int32)), .unset, .unset, .unset, .unset, .unset, .unset, .unset, .unset, .unset, .unset, .unset, .unset, .unset, .unset, .unset, .unset, .unset, .unset, .unset, .unset, .unset, .unset, .unset, .unset, .unset]) (hb hby at_181) rfl rfl ?_
        refine g_ldc2 X59 hx hZ hown (hw _ (List.mem_of_getElem? (i := 22) rfl)) (hb hby at_183) rfl ?_
        refine g_lload X59 hx (hb hby at_186) rfl rfl ?_
        refine g_lmul X59 hx (hb hby at_188) rfl rfl ?_
        refine g_lload X59 hx (hb hby at_189) rfl rfl ?_
        refine g_lcmp X59 hx (hb hby at_191) rfl  ?_
        by_cases hc192 : ((2 : Int64) * v24) = v6
        · skip
          refine g_ifN X59 hx (hb hby at_192) rfl (XT.ll_ne_f hc192) ?_
          refine g_iconst X59 hx (r := (1 : Int32)) (hb hby at_195) rfl rfl ?_
          refine g_goto X59 hx (q := 200) (hb hby at_196) (by decide) (by decide) ?_
          refine g_dload X59 hx (hb hby at_200) rfl rfl ?_
          refine g_dload X59 hx (hb hby at_202) rfl rfl ?_
          refine g_dcmp X59 hx (hb hby at_204) rfl  ?_
          have hc205 : (cmpValue (FP.dcmp (FP.ddiv (FP.l2d v51) (FP.l2d v6)) (FP.dadd (FP.l2d v13) 4602678819172646912)) .l) = (0 : Int32) := qa4.2.2.2.2.2.2.2.2.2.2.1 (by rw [← h2r]; exact own_eq64.mp hc192)
          refine g_ifN X59 hx (hb hby at_205) rfl (XT.i0_ne_f hc205) ?_
          refine g_iconst X59 hx (r := (1 : Int32)) (hb hby at_208) rfl rfl ?_
          refine g_goto X59 hx (q := 213) (hb hby at_209) (by decide) (by decide) ?_
          refine g_icmpN X59 hx (hb hby at_213) rfl (XT.ii_ne_f (by decide : (1 : Int32) = (1 : Int32))) ?_
          refine g_iconst X59 hx (r := (1 : Int32)) (hb hby at_216) rfl rfl ?_
          refine g_goto X59 hx (q := 221) (hb hby at_217) (by decide) (by decide) ?_
          refine g_istore X59 hx (Ls' := #[.val (.long p0), .second, .val (.long p1), .second, .val (.long p2), .second, .val (.long p3), .second, .val (.long p4), .second, .val (.long p5), .second, .val (.long v6), .second, .val (.long v13), .second, .val (.long v24), .second, .val (.long v51), .second, .val (.double (FP.ddiv (FP.l2d v51) (FP.l2d v6))), .second, .val (.double (FP.l2d v13)), .second, .val (.double (FP.dadd (FP.l2d v13) 4602678819172646912)), .second, .val (.int (1 : Int32)), .val (.int (1 : Int32)), .val (.int (1 : Int32)), .val (.int (1 : Int32)), .unset, .unset, .unset, .unset, .unset, .unset, .unset, .unset, .unset, .unset, .unset, .unset, .unset, .unset, .unset, .unset, .unset, .unset, .unset, .unset, .unset, .unset, .unset, .unset]) (hb hby at_221) rfl rfl ?_
          exact J223
        · skip
          refine g_ifY X59 hx (q := 199) (hb hby at_192) (XT.ll_ne_t hc192) (by decide) (by decide) ?_
          refine g_iconst X59 hx (r := (0 : Int32)) (hb hby at_199) rfl rfl ?_
          refine g_dload X59 hx (hb hby at_200) rfl rfl ?_
          refine g_dload X59 hx (hb hby at_202) rfl rfl ?_
          refine g_dcmp X59 hx (hb hby at_204) rfl  ?_
          have hc205 : ¬ (cmpValue (FP.dcmp (FP.ddiv (FP.l2d v51) (FP.l2d v6)) (FP.dadd (FP.l2d v13) 4602678819172646912)) .l) = (0 : Int32) := qa4.2.2.2.2.2.2.2.2.2.2.2 (by rw [← h2r]; exact fun z => hc192 (own_eq64.mpr z))
          refine g_ifY X59 hx (q := 212) (hb hby at_205) (XT.i0_ne_t hc205) (by decide) (by decide) ?_
          refine g_iconst X59 hx (r := (0 : Int32)) (hb hby at_212) rfl rfl ?_
          refine g_icmpN X59 hx (hb hby at_213) rfl (XT.ii_ne_f (by decide : (0 : Int32) = (0 : Int32))) ?_
          refine g_iconst X59 hx (r := (1 : Int32)) (hb hby at_216) rfl rfl ?_
          refine g_goto X59 hx (q := 221) (hb hby at_217) (by decide) (by decide) ?_
          refine g_istore X59 hx (Ls' := #[.val (.long p0), .second, .val (.long p1), .second, .val (.long p2), .second, .val (.long p3), .second, .val (.long p4), .second, .val (.long p5), .second, .val (.long v6), .second, .val (.long v13), .second, .val (.long v24), .second, .val (.long v51), .second, .val (.double (FP.ddiv (FP.l2d v51) (FP.l2d v6))), .second, .val (.double (FP.l2d v13)), .second, .val (.double (FP.dadd (FP.l2d v13) 4602678819172646912)), .second, .val (.int (1 : Int32)), .val (.int (1 : Int32)), .val (.int (1 : Int32)), .val (.int (1 : Int32)), .unset, .unset, .unset, .unset, .unset, .unset, .unset, .unset, .unset, .unset, .unset, .unset, .unset, .unset, .unset, .unset, .unset, .unset, .unset, .unset, .unset, .unset, .unset, .unset]) (hb hby at_221) rfl rfl ?_
          exact J223
      · skip
        refine g_ifY X59 hx (q := 159) (hb hby at_152) (XT.ll_ge_t hc152) (by decide) (by decide) ?_
        refine g_iconst X59 hx (r := (0 : Int32)) (hb hby at_159) rfl rfl ?_
        refine g_dload X59 hx (hb hby at_160) rfl rfl ?_
        refine g_dload X59 hx (hb hby at_162) rfl rfl ?_
        refine g_dcmp X59 hx (hb hby at_164) rfl  ?_
        have hc165 : ¬ (cmpValue (FP.dcmp (FP.ddiv (FP.l2d v51) (FP.l2d v6)) (FP.dadd (FP.l2d v13) 4602678819172646912)) .g) < (0 : Int32) := qa4.2.2.2.2.2.2.2.2.2.1 (by rw [← h2r]; exact fun z => hc152 (own_lt64.mpr z))
        refine g_ifY X59 hx (q := 172) (hb hby at_165) (XT.i0_ge_t hc165) (by decide) (by decide) ?_
        refine g_iconst X59 hx (r := (0 : Int32)) (hb hby at_172) rfl rfl ?_
        refine g_icmpN X59 hx (hb hby at_173) rfl (XT.ii_ne_f (by decide : (0 : Int32) = (0 : Int32))) ?_
        refine g_iconst X59 hx (r := (1 : Int32)) (hb hby at_176) rfl rfl ?_
        refine g_goto X59 hx (q := 181) (hb hby at_177) (by decide) (by decide) ?_
        refine g_istore X59 hx (Ls' := #[.val (.long p0), .second, .val (.long p1), .second, .val (.long p2), .second, .val (.long p3), .second, .val (.long p4), .second, .val (.long p5), .second, .val (.long v6), .second, .val (.long v13), .second, .val (.long v24), .second, .val (.long v51), .second, .val (.double (FP.ddiv (FP.l2d v51) (FP.l2d v6))), .second, .val (.double (FP.l2d v13)), .second, .val (.double (FP.dadd (FP.l2d v13) 4602678819172646912)), .second, .val (.int (1 : Int32)), .val (.int (1 : Int32)), .val (.int (1 : Int32)), .unset, .unset, .unset, .unset, .unset, .unset, .unset, .unset, .unset, .unset, .unset, .unset, .unset, .unset, .unset, .unset, .unset, .unset, .unset, .unset, .unset, .unset, .unset, .unset, .unset]) (hb hby at_181) rfl rfl ?_
        refine g_ldc2 X59 hx hZ hown (hw _ (List.mem_of_getElem? (i := 22) rfl)) (hb hby at_183) rfl ?_
        refine g_lload X59 hx (hb hby at_186) rfl rfl ?_
        refine g_lmul X59 hx (hb hby at_188) rfl rfl ?_
        refine g_lload X59 hx (hb hby at_189) rfl rfl ?_
        refine g_lcmp X59 hx (hb hby at_191) rfl  ?_
        by_cases hc192 : ((2 : Int64) * v24) = v6
        · skip
          refine g_ifN X59 hx (hb hby at_192) rfl (XT.ll_ne_f hc192) ?_
          refine g_iconst X59 hx (r := (1 : Int32)) (hb hby at_195) rfl rfl ?_
          refine g_goto X59 hx (q := 200) (hb hby at_196) (by decide) (by decide) ?_
          refine g_dload X59 hx (hb hby at_200) rfl rfl ?_
          refine g_dload X59 hx (hb hby at_202) rfl rfl ?_
          refine g_dcmp X59 hx (hb hby at_204) rfl  ?_
          have hc205 : (cmpValue (FP.dcmp (FP.ddiv (FP.l2d v51) (FP.l2d v6)) (FP.dadd (FP.l2d v13) 4602678819172646912)) .l) = (0 : Int32) := qa4.2.2.2.2.2.2.2.2.2.2.1 (by rw [← h2r]; exact own_eq64.mp hc192)
          refine g_ifN X59 hx (hb hby at_205) rfl (XT.i0_ne_f hc205) ?_
          refine g_iconst X59 hx (r := (1 : Int32)) (hb hby at_208) rfl rfl ?_
          refine g_goto X59 hx (q := 213) (hb hby at_209) (by decide) (by decide) ?_
          refine g_icmpN X59 hx (hb hby at_213) rfl (XT.ii_ne_f (by decide : (1 : Int32) = (1 : Int32))) ?_
          refine g_iconst X59 hx (r := (1 : Int32)) (hb hby at_216) rfl rfl ?_
          refine g_goto X59 hx (q := 221) (hb hby at_217) (by decide) (by decide) ?_
          refine g_istore X59 hx (Ls' := #[.val (.long p0), .second, .val (.long p1), .second, .val (.long p2), .second, .val (.long p3), .second, .val (.long p4), .second, .val (.long p5), .second, .val (.long v6), .second, .val (.long v13), .second, .val (.long v24), .second, .val (.long v51), .second, .val (.double (FP.ddiv (FP.l2d v51) (FP.l2d v6))), .second, .val (.double (FP.l2d v13)), .second, .val (.double (FP.dadd (FP.l2d v13) 4602678819172646912)), .second, .val (.int (1 : Int32)), .val (.int (1 : Int32)), .val (.int (1 : Int32)), .val (.int (1 : Int32)), .unset, .unset, .unset, .unset, .unset, .unset, .unset, .unset, .unset, .unset, .unset, .unset, .unset, .unset, .unset, .unset, .unset, .unset, .unset, .unset, .unset, .unset, .unset, .unset]) (hb hby at_221) rfl rfl ?_
          exact J223
        · skip
          refine g_ifY X59 hx (q := 199) (hb hby at_192) (XT.ll_ne_t hc192) (by decide) (by decide) ?_
          refine g_iconst X59 hx (r := (0 : Int32)) (hb hby at_199) rfl rfl ?_
          refine g_dload X59 hx (hb hby at_200) rfl rfl ?_
          refine g_dload X59 hx (hb hby at_202) rfl rfl ?_
          refine g_dcmp X59 hx (hb hby at_204) rfl  ?_
          have hc205 : ¬ (cmpValue (FP.dcmp (FP.ddiv (FP.l2d v51) (FP.l2d v6)) (FP.dadd (FP.l2d v13) 4602678819172646912)) .l) = (0 : Int32) := qa4.2.2.2.2.2.2.2.2.2.2.2 (by rw [← h2r]; exact fun z => hc192 (own_eq64.mpr z))
          refine g_ifY X59 hx (q := 212) (hb hby at_205) (XT.i0_ne_t hc205) (by decide) (by decide) ?_
          refine g_iconst X59 hx (r := (0 : Int32)) (hb hby at_212) rfl rfl ?_
          refine g_icmpN X59 hx (hb hby at_213) rfl (XT.ii_ne_f (by decide : (0 : Int32) = (0 : Int32))) ?_
          refine g_iconst X59 hx (r := (1 : Int32)) (hb hby at_216) rfl rfl ?_
          refine g_goto X59 hx (q := 221) (hb hby at_217) (by decide) (by decide) ?_
          refine g_istore X59 hx (Ls' := #[.val (.long p0), .second, .val (.long p1), .second, .val (.long p2), .second, .val (.long p3), .second, .val (.long p4), .second, .val (.long p5), .second, .val (.long v6), .second, .val (.long v13), .second, .val (.long v24), .second, .val (.long v51), .second, .val (.double (FP.ddiv (FP.l2d v51) (FP.l2d v6))), .second, .val (.double (FP.l2d v13)), .second, .val (.double (FP.dadd (FP.l2d v13) 4602678819172646912)), .second, .val (.int (1 : Int32)), .val (.int (1 : Int32)), .val (.int (1 : Int32)), .val (.int (1 : Int32)), .unset, .unset, .unset, .unset, .unset, .unset, .unset, .unset, .unset, .unset, .unset, .unset, .unset, .unset, .unset, .unset, .unset, .unset, .unset, .unset, .unset, .unset, .unset, .unset]) (hb hby at_221) rfl rfl ?_
          exact J223
    · skip
      refine g_ifY X59 hx (q := 119) (hb hby at_112) (XT.ll_ne_t hc112) (by decide) (by decide) ?_
      refine g_iconst X59 hx (r := (0 : Int32)) (hb hby at_119) rfl rfl ?_
      refine g_dload X59 hx (hb hby at_120) rfl rfl ?_
      refine g_dload X59 hx (hb hby at_122) rfl rfl ?_
      refine g_dcmp X59 hx (hb hby at_124) rfl  ?_
      have hc125 : ¬ (cmpValue (FP.dcmp (FP.ddiv (FP.l2d v51) (FP.l2d v6)) (FP.l2d v13)) .l) = (0 : Int32) := qa4.2.2.2.2.2.2.2.1 (fun z => hc112 (own_eq64.mpr z))
      refine g_ifY X59 hx (q := 132) (hb hby at_125) (XT.i0_ne_t hc125) (by decide) (by decide) ?_
      refine g_iconst X59 hx (r := (0 : Int32)) (hb hby at_132) rfl rfl ?_
      refine g_icmpN X59 hx (hb hby at_133) rfl (XT.ii_ne_f (by decide : (0 : Int32) = (0 : Int32))) ?_
      refine g_iconst X59 hx (r := (1 : Int32)) (hb hby at_136) rfl rfl ?_
      refine g_goto X59 hx (q := 141) (hb hby at_137) (by decide) (by decide) ?_
      refine g_istore X59 hx (Ls' := #[.val (.long p0), .second, .val (.long p1), .second, .val (.long p2), .second, .val (.long p3), .second, .val (.long p4), .second, .val (.long p5), .second, .val (.long v6), .second, .val (.long v13), .second, .val (.long v24), .second, .val (.long v51), .second, .val (.double (FP.ddiv (FP.l2d v51) (FP.l2d v6))), .second, .val (.double (FP.l2d v13)), .second, .val (.double (FP.dadd (FP.l2d v13) 4602678819172646912)), .second, .val (.int (1 : Int32)), .val (.int (1 : Int32)), .unset, .unset, .unset, .unset, .unset, .unset, .unset, .unset, .unset, .unset, .unset, .unset, .unset, .unset, .unset, .unset, .unset, .unset, .unset, .unset, .unset, .unset, .unset, .unset, .unset, .unset]) (hb hby at_141) rfl rfl ?_
      refine g_ldc2 X59 hx hZ hown (hw _ (List.mem_of_getElem? (i := 22) rfl)) (hb hby at_143) rfl ?_
      refine g_lload X59 hx (hb hby at_146) rfl rfl ?_
      refine g_lmul X59 hx (hb hby at_148) rfl rfl ?_
      refine g_lload X59 hx (hb hby at_149) rfl rfl ?_
      refine g_lcmp X59 hx (hb hby at_151) rfl  ?_
      by_cases hc152 : ((2 : Int64) * v24) < v6
      · skip
        refine g_ifN X59 hx (hb hby at_152) rfl (XT.ll_ge_f hc152) ?_
        refine g_iconst X59 hx (r := (1 : Int32)) (hb hby at_155) rfl rfl ?_
        refine g_goto X59 hx (q := 160) (hb hby at_156) (by decide) (by decide) ?_
        refine g_dload X59 hx (hb hby at_160) rfl rfl ?_
        refine g_dload X59 hx (hb hby at_162) rfl rfl ?_
        refine g_dcmp X59 hx (hb hby at_164) rfl  ?_
        have hc165 : (cmpValue (FP.dcmp (FP.ddiv (FP.l2d v51) (FP.l2d v6)) (FP.dadd (FP.l2d v13) 4602678819172646912)) .g) < (0 : Int32) := qa4.2.2.2.2.2.2.2.2.1 (by rw [← h2r]; exact own_lt64.mp hc152)
        refine g_ifN X59 hx (hb hby at_165) rfl (XT.i0_ge_f hc165) ?_
        refine g_iconst X59 hx (r := (1 : Int32)) (hb hby at_168) rfl rfl ?_
        refine g_goto X59 hx (q := 173) (hb hby at_169) (by decide) (by decide) ?_
        refine g_icmpN X59 hx (hb hby at_173) rfl (XT.ii_ne_f (by decide : (1 : Int32) = (1 : Int32))) ?_
        refine g_iconst X59 hx (r := (1 : Int32)) (hb hby at_176) rfl rfl ?_
        refine g_goto X59 hx (q := 181) (hb hby at_177) (by decide) (by decide) ?_
        refine g_istore X59 hx (Ls' := #[.val (.long p0), .second, .val (.long p1), .second, .val (.long p2), .second, .val (.long p3), .second, .val (.long p4), .second, .val (.long p5), .second, .val (.long v6), .second, .val (.long v13), .second, .val (.long v24), .second, .val (.long v51), .second, .val (.double (FP.ddiv (FP.l2d v51) (FP.l2d v6))), .second, .val (.double (FP.l2d v13)), .second, .val (.double (FP.dadd (FP.l2d v13) 4602678819172646912)), .second, .val (.int (1 : Int32)), .val (.int (1 : Int32)), .val (.int (1 : Int32)), .unset, .unset, .unset, .unset, .unset, .unset, .unset, .unset, .unset, .unset, .unset, .unset, .unset, .unset, .unset, .unset, .unset, .unset, .unset, .unset, .unset, .unset, .unset, .unset, .unset]) (hb hby at_181) rfl rfl ?_
        refine g_ldc2 X59 hx hZ hown (hw _ (List.mem_of_getElem? (i := 22) rfl)) (hb hby at_183) rfl ?_
        refine g_lload X59 hx (hb hby at_186) rfl rfl ?_
        refine g_lmul X59 hx (hb hby at_188) rfl rfl ?_
        refine g_lload X59 hx (hb hby at_189) rfl rfl ?_
        refine g_lcmp X59 hx (hb hby at_191) rfl  ?_
        by_cases hc192 : ((2 : Int64) * v24) = v6
        · skip
          refine g_ifN X59 hx (hb hby at_192) rfl (XT.ll_ne_f hc192) ?_
          refine g_iconst X59 hx (r := (1 : Int32)) (hb hby at_195) rfl rfl ?_
          refine g_goto X59 hx (q := 200) (hb hby at_196) (by decide) (by decide) ?_
          refine g_dload X59 hx (hb hby at_200) rfl rfl ?_
          refine g_dload X59 hx (hb hby at_202) rfl rfl ?_
          refine g_dcmp X59 hx (hb hby at_204) rfl  ?_
          have hc205 : (cmpValue (FP.dcmp (FP.ddiv (FP.l2d v51) (FP.l2d v6)) (FP.dadd (FP.l2d v13) 4602678819172646912)) .l) = (0 : Int32) := qa4.2.2.2.2.2.2.2.2.2.2.1 (by rw [← h2r]; exact own_eq64.mp hc192)
          refine g_ifN X59 hx (hb hby at_205) rfl (XT.i0_ne_f hc205) ?_
          refine g_iconst X59 hx (r := (1 : Int32)) (hb hby at_208) rfl rfl ?_
          refine g_goto X59 hx (q := 213) (hb hby at_209) (by decide) (by decide) ?_
          refine g_icmpN X59 hx (hb hby at_213) rfl (XT.ii_ne_f (by decide : (1 : Int32) = (1 : Int32))) ?_
          refine g_iconst X59 hx (r := (1 : Int32)) (hb hby at_216) rfl rfl ?_
          refine g_goto X59 hx (q := 221) (hb hby at_217) (by decide) (by decide) ?_
          refine g_istore X59 hx (Ls' := #[.val (.long p0), .second, .val (.long p1), .second, .val (.long p2), .second, .val (.long p3), .second, .val (.long p4), .second, .val (.long p5), .second, .val (.long v6), .second, .val (.long v13), .second, .val (.long v24), .second, .val (.long v51), .second, .val (.double (FP.ddiv (FP.l2d v51) (FP.l2d v6))), .second, .val (.double (FP.l2d v13)), .second, .val (.double (FP.dadd (FP.l2d v13) 4602678819172646912)), .second, .val (.int (1 : Int32)), .val (.int (1 : Int32)), .val (.int (1 : Int32)), .val (.int (1 : Int32)), .unset, .unset, .unset, .unset, .unset, .unset, .unset, .unset, .unset, .unset, .unset, .unset, .unset, .unset, .unset, .unset, .unset, .unset, .unset, .unset, .unset, .unset, .unset, .unset]) (hb hby at_221) rfl rfl ?_
          exact J223
        · skip
          refine g_ifY X59 hx (q := 199) (hb hby at_192) (XT.ll_ne_t hc192) (by decide) (by decide) ?_
          refine g_iconst X59 hx (r := (0 : Int32)) (hb hby at_199) rfl rfl ?_
          refine g_dload X59 hx (hb hby at_200) rfl rfl ?_
          refine g_dload X59 hx (hb hby at_202) rfl rfl ?_
          refine g_dcmp X59 hx (hb hby at_204) rfl  ?_
          have hc205 : ¬ (cmpValue (FP.dcmp (FP.ddiv (FP.l2d v51) (FP.l2d v6)) (FP.dadd (FP.l2d v13) 4602678819172646912)) .l) = (0 : Int32) := qa4.2.2.2.2.2.2.2.2.2.2.2 (by rw [← h2r]; exact fun z => hc192 (own_eq64.mpr z))
          refine g_ifY X59 hx (q := 212) (hb hby at_205) (XT.i0_ne_t hc205) (by decide) (by decide) ?_
          refine g_iconst X59 hx (r := (0 : Int32)) (hb hby at_212) rfl rfl ?_
          refine g_icmpN X59 hx (hb hby at_213) rfl (XT.ii_ne_f (by decide : (0 : Int32) = (0 : Int32))) ?_
          refine g_iconst X59 hx (r := (1 : Int32)) (hb hby at_216) rfl rfl ?_
          refine g_goto X59 hx (q := 221) (hb hby at_217) (by decide) (by decide) ?_
          refine g_istore X59 hx (Ls' := #[.val (.long p0), .second, .val (.long p1), .second, .val (.long p2), .second, .val (.long p3), .second, .val (.long p4), .second, .val (.long p5), .second, .val (.long v6), .second, .val (.long v13), .second, .val (.long v24), .second, .val (.long v51), .second, .val (.double (FP.ddiv (FP.l2d v51) (FP.l2d v6))), .second, .val (.double (FP.l2d v13)), .second, .val (.double (FP.dadd (FP.l2d v13) 4602678819172646912)), .second, .val (.int (1 : Int32)), .val (.int (1 : Int32)), .val (.int (1 : Int32)), .val (.int (1 : Int32)), .unset, .unset, .unset, .unset, .unset, .unset, .unset, .unset, .unset, .unset, .unset, .unset, .unset, .unset, .unset, .unset, .unset, .unset, .unset, .unset, .unset, .unset, .unset, .unset]) (hb hby at_221) rfl rfl ?_
          exact J223
      · skip
        refine g_ifY X59 hx (q := 159) (hb hby at_152) (XT.ll_ge_t hc152) (by decide) (by decide) ?_
        refine g_iconst X59 hx (r := (0 : Int32)) (hb hby at_159) rfl rfl ?_
        refine g_dload X59 hx (hb hby at_160) rfl rfl ?_
        refine g_dload X59 hx (hb hby at_162) rfl rfl ?_
        refine g_dcmp X59 hx (hb hby at_164) rfl  ?_
        have hc165 : ¬ (cmpValue (FP.dcmp (FP.ddiv (FP.l2d v51) (FP.l2d v6)) (FP.dadd (FP.l2d v13) 4602678819172646912)) .g) < (0 : Int32) := qa4.2.2.2.2.2.2.2.2.2.1 (by rw [← h2r]; exact fun z => hc152 (own_lt64.mpr z))
        refine g_ifY X59 hx (q := 172) (hb hby at_165) (XT.i0_ge_t hc165) (by decide) (by decide) ?_
        refine g_iconst X59 hx (r := (0 : Int32)) (hb hby at_172) rfl rfl ?_
        refine g_icmpN X59 hx (hb hby at_173) rfl (XT.ii_ne_f (by decide : (0 : Int32) = (0 : Int32))) ?_
        refine g_iconst X59 hx (r := (1 : Int32)) (hb hby at_176) rfl rfl ?_
        refine g_goto X59 hx (q := 181) (hb hby at_177) (by decide) (by decide) ?_
        refine g_istore X59 hx (Ls' := #[.val (.long p0), .second, .val (.long p1), .second, .val (.long p2), .second, .val (.long p3), .second, .val (.long p4), .second, .val (.long p5), .second, .val (.long v6), .second, .val (.long v13), .second, .val (.long v24), .second, .val (.long v51), .second, .val (.double (FP.ddiv (FP.l2d v51) (FP.l2d v6))), .second, .val (.double (FP.l2d v13)), .second, .val (.double (FP.dadd (FP.l2d v13) 4602678819172646912)), .second, .val (.int (1 : Int32)), .val (.int (1 : Int32)), .val (.int (1 : Int32)), .unset, .unset, .unset, .unset, .unset, .unset, .unset, .unset, .unset, .unset, .unset, .unset, .unset, .unset, .unset, .unset, .unset, .unset, .unset, .unset, .unset, .unset, .unset, .unset, .unset]) (hb hby at_181) rfl rfl ?_
        refine g_ldc2 X59 hx hZ hown (hw _ (List.mem_of_getElem? (i := 22) rfl)) (hb hby at_183) rfl ?_
        refine g_lload X59 hx (hb hby at_186) rfl rfl ?_
        refine g_lmul X59 hx (hb hby at_188) rfl rfl ?_
        refine g_lload X59 hx (hb hby at_189) rfl rfl ?_
        refine g_lcmp X59 hx (hb hby at_191) rfl  ?_
        by_cases hc192 : ((2 : Int64) * v24) = v6
        · skip
          refine g_ifN X59 hx (hb hby at_192) rfl (XT.ll_ne_f hc192) ?_
          refine g_iconst X59 hx (r := (1 : Int32)) (hb hby at_195) rfl rfl ?_
          refine g_goto X59 hx (q := 200) (hb hby at_196) (by decide) (by decide) ?_
          refine g_dload X59 hx (hb hby at_200) rfl rfl ?_
          refine g_dload X59 hx (hb hby at_202) rfl rfl ?_
          refine g_dcmp X59 hx (hb hby at_204) rfl  ?_
          have hc205 : (cmpValue (FP.dcmp (FP.ddiv (FP.l2d v51) (FP.l2d v6)) (FP.dadd (FP.l2d v13) 4602678819172646912)) .l) = (0 : Int32) := qa4.2.2.2.2.2.2.2.2.2.2.1 (by rw [← h2r]; exact own_eq64.mp hc192)
          refine g_ifN X59 hx (hb hby at_205) rfl (XT.i0_ne_f hc205) ?_
          refine g_iconst X59 hx (r := (1 : Int32)) (hb hby at_208) rfl rfl ?_
          refine g_goto X59 hx (q := 213) (hb hby at_209) (by decide) (by decide) ?_
          refine g_icmpN X59 hx (hb hby at_213) rfl (XT.ii_ne_f (by decide : (1 : Int32) = (1 : Int32))) ?_
          refine g_iconst X59 hx (r := (1 : Int32)) (hb hby at_216) rfl rfl ?_
          refine g_goto X59 hx (q := 221) (hb hby at_217) (by decide) (by decide) ?_
          refine g_istore X59 hx (Ls' := #[.val (.long p0), .second, .val (.long p1), .second, .val (.long p2), .second, .val (.long p3), .second, .val (.long p4), .second, .val (.long p5), .second, .val (.long v6), .second, .val (.long v13), .second, .val (.long v24), .second, .val (.long v51), .second, .val (.double (FP.ddiv (FP.l2d v51) (FP.l2d v6))), .second, .val (.double (FP.l2d v13)), .second, .val (.double (FP.dadd (FP.l2d v13) 4602678819172646912)), .second, .val (.int (1 : Int32)), .val (.int (1 : Int32)), .val (.int (1 : Int32)), .val (.int (1 : Int32)), .unset, .unset, .unset, .unset, .unset, .unset, .unset, .unset, .unset, .unset, .unset, .unset, .unset, .unset, .unset, .unset, .unset, .unset, .unset, .unset, .unset, .unset, .unset, .unset]) (hb hby at_221) rfl rfl ?_
          exact J223
        · skip
          refine g_ifY X59 hx (q := 199) (hb hby at_192) (XT.ll_ne_t hc192) (by decide) (by decide) ?_
          refine g_iconst X59 hx (r := (0 : Int32)) (hb hby at_199) rfl rfl ?_
          refine g_dload X59 hx (hb hby at_200) rfl rfl ?_
          refine g_dload X59 hx (hb hby at_202) rfl rfl ?_
          refine g_dcmp X59 hx (hb hby at_204) rfl  ?_
          have hc205 : ¬ (cmpValue (FP.dcmp (FP.ddiv (FP.l2d v51) (FP.l2d v6)) (FP.dadd (FP.l2d v13) 4602678819172646912)) .l) = (0 : Int32) := qa4.2.2.2.2.2.2.2.2.2.2.2 (by rw [← h2r]; exact fun z => hc192 (own_eq64.mpr z))
          refine g_ifY X59 hx (q := 212) (hb hby at_205) (XT.i0_ne_t hc205) (by decide) (by decide) ?_
          refine g_iconst X59 hx (r := (0 : Int32)) (hb hby at_212) rfl rfl ?_
          refine g_icmpN X59 hx (hb hby at_213) rfl (XT.ii_ne_f (by decide : (0 : Int32) = (0 : Int32))) ?_
          refine g_iconst X59 hx (r := (1 : Int32)) (hb hby at_216) rfl rfl ?_
          refine g_goto X59 hx (q := 221) (hb hby at_217) (by decide) (by decide) ?_
          refine g_istore X59 hx (Ls' := #[.val (.long p0), .second, .val (.long p1), .second, .val (.long p2), .second, .val (.long p3), .second, .val (.long p4), .second, .val (.long p5), .second, .val (.long v6), .second, .val (.long v13), .second, .val (.long v24), .second, .val (.long v51), .second, .val (.double (FP.ddiv (FP.l2d v51) (FP.l2d v6))), .second, .val (.double (FP.l2d v13)), .second, .val (.double (FP.dadd (FP.l2d v13) 4602678819172646912)), .second, .val (.int (1 : Int32)), .val (.int (1 : Int32)), .val (.int (1 : Int32)), .val (.int (1 : Int32)), .unset, .unset, .unset, .unset, .unset, .unset, .unset, .unset, .unset, .unset, .unset, .unset, .unset, .unset, .unset, .unset, .unset, .unset, .unset, .unset, .unset, .unset, .unset, .unset]) (hb hby at_221) rfl rfl ?_
          exact J223
set_option maxRecDepth 65536 in
set_option maxHeartbeats 40000000 in
theorem comes_1 {Post : Tables → Env → Array Value → State → Outcome → State → Prop} (hpost : ∀ tb e args s v u, (limb_1_1.after args s (.returned v) u = true ∧ limb_1_2.after args s (.returned v) u = true ∧ True) → FrameEnd s (.returned v) u (Jvm.fieldLocs frame_1_writes args s ++ Jvm.arrayLocs frame_1_arrays args s ++ Jvm.staticLocs frame_1_statics s) 24 128 → Post tb e args s (.returned v) u) :
    ArmFor flags0 classFile x code maxLocals ret World_1 tables_1 room_1 Calls_1 rest_1 Pre_1 Post := by
  intro l hfl _ _ p e ha hc hk s m args below hf hA hF happ hP
  obtain ⟨hcalls, hrest, hpre⟩ := hP
  obtain ⟨-, -, -, hnamed, -, -, -, hat⟩ := (Spec.applies_iff hf).mp happ
  obtain ⟨hg, hn⟩ := and_e (Cond.before_iff.mp (show (Jvm.Cond.and given_1 narrow_1).before args s = true from hpre))
  obtain ⟨hcn, hg1⟩ := and_e hg
  obtain ⟨k1, hg2⟩ := and_e hg1
  obtain ⟨k2, hg3⟩ := and_e hg2
  obtain ⟨k3, hg4⟩ := and_e hg3
  obtain ⟨k4, hg5⟩ := and_e hg4
  obtain ⟨k5, hg6⟩ := and_e hg5
  have k6 := hg6
  obtain ⟨w0, w1, w2, w3, w4, w5, rfl⟩ : ∃ w0 w1 w2 w3 w4 w5 : Value, args = #[w0, w1, w2, w3, w4, w5] := by
    have hs : args.size = 6 := by simpa [Cond.value, given_1] using hcn
    obtain ⟨L⟩ := args
    match L, hs with
    | [w0, w1, w2, w3, w4, w5], _ => exact ⟨w0, w1, w2, w3, w4, w5, rfl⟩
  have hw := fun d (hd : d ∈ tables_1) => atoms_spec (ws := Jvm.Cond.code x code maxLocals ret :: tables_1) hat d (List.mem_cons_of_mem _ hd)
  have hfit : Fit s := fun {y c} hc i hi => by
    obtain ⟨ha, rfl⟩ := Array.getElem?_eq_some_iff.mp hc
    have q := List.all_eq_true.mp ((Array.all_eq_true_iff_forall_mem.mp hF) _ (Array.getElem_mem ha)) i (List.mem_range.mpr hi)
    simpa [Array.getElem?_eq_getElem hi] using q
  obtain ⟨i0, ei0⟩ := isL_v k1
  obtain rfl : w0 = (.long i0) := Option.some.inj ei0
  obtain ⟨i1, ei1⟩ := isL_v k2
  obtain rfl : w1 = (.long i1) := Option.some.inj ei1
  obtain ⟨i2, ei2⟩ := isL_v k3
  obtain rfl : w2 = (.long i2) := Option.some.inj ei2
  obtain ⟨i3, ei3⟩ := isL_v k4
  obtain rfl : w3 = (.long i3) := Option.some.inj ei3
  obtain ⟨i4, ei4⟩ := isL_v k5
  obtain rfl : w4 = (.long i4) := Option.some.inj ei4
  obtain ⟨i5, ei5⟩ := isL_v k6
  obtain rfl : w5 = (.long i5) := Option.some.inj ei5
  obtain ⟨n, o, h1, h2, h3, _, L, rfl, ⟨rfl, N⟩, hq⟩ := rm_law l s _ hw tables_1 i0 i1 i2 i3 i4 i5 s.heap s.heap.size (Nat.le_refl _) p e ha hc hk s m _ below hf ((Spec.applies_iff_loose hf).mp happ).1 ⟨rfl, State.Warmed39.refl s, rfl⟩ trivial
  refine ⟨n, _, h1, h2, h3, hpost _ _ _ _ _ _ ⟨Cond.after_iff.mpr rfl, Cond.after_iff.mpr (eq_i res_at (Term.int_eval (1)) rfl), trivial⟩ ⟨hq.1, hq.2.1, (hq.2.2.sift fun y hy => Or.inr (N y hy)).mono (by decide) (by decide)⟩⟩
theorem main_1_1 : Claimed_1_1 := comes_1 fun _ _ _ _ _ _ h hF => ⟨h.1, hF⟩
theorem main_1_2 : Claimed_1_2 := comes_1 fun _ _ _ _ _ _ h hF => ⟨h.2.1, hF⟩
end Jvm.Pilot.@@N@@
namespace Jvm.Pilot.@@N@@
open Jvm Jvm.ClassFile Sem Op Lib Jvm.Free Jvm.Stand Jvm.Pilot.@@N@@.Jvm.D
/-! MADE BY PROGRAM (witnessworld.py) out of the Statement's table words and the real class files: 10 classes; the members and pool entries that the words name. The judged class is class 1, her method 1. -/
namespace start1
open Jvm.ClassFile
def u (s : String) : CpInfo := .utf8 (stringToUtf16 s)
/-- a pool by its gaps: so many unusable entries, then the entry; so many at the end -/
def gap : Nat → List CpInfo → List CpInfo
  | 0, r => r
  | n + 1, r => .unusable :: gap n r
def poolList (es : List (Nat × CpInfo)) (last : Nat) : List CpInfo := es.foldr (fun e r => gap e.1 (e.2 :: r)) (gap last [])
def pool (es : List (Nat × CpInfo)) (last : Nat) : Array CpInfo := ⟨poolList es last⟩
def fileOf (pool : Array CpInfo) (this : Nat) (attrs : Array Attribute := #[]) (ms : Array MethodInfo := #[]) (fl : Nat := 33) (sup : Nat := 0) (ifs : Array Nat := #[]) (fds : Array FieldInfo := #[]) : ClassFile where
  minorVersion := 0
  majorVersion := 65
  constantPool := pool
  accessFlags := fl
  thisClass := this
  superClass := sup
  interfaces := ifs
  fields := fds
  methods := ms
  attributes := attrs
def plain (name : String) (sup : Option ClassId) : Class where
  name := name
  kind := .ordinary
  loader := none
  accessFlags := 33
  super := sup
  interfaces := #[]
  cf := none
  fields := #[]
  methods := #[]
  instanceTypes := #[]
  staticTypes := #[]
  resolved := #[]
  callSites := []
  init := .initialized
  statics := none
  mirror := none

def pool0 : Array CpInfo := pool [(5, u "<init>"), (0, u "()V"), (1, .class_ 10), (1, u "java/lang/Object")] 113

def k0c0 : Code := { maxStack := 0, maxLocals := 1, code := object_method_1_code, exceptionTable := #[], attributes := #[] }
def k0m0 : Method := { name := "<init>", desc := "()V", sig := { parameters := [], returnType := none }, accessFlags := 1, code := some k0c0 }
/-- java/lang/Object -/
def k0 : Class := { plain "java/lang/Object" none with
  accessFlags := 33
  interfaces := #[]
  cf := some (fileOf pool0 8 #[] #[{ accessFlags := 1, nameIndex := 5, descriptorIndex := 6, attributes := #[] }] 33 0 #[] #[])
  fields := #[]
  methods := #[k0m0]
  instanceTypes := #[]
  staticTypes := #[]
  resolved := Array.replicate 124 none
  statics := none }

def pool1 : Array CpInfo := pool [(2, .class_ 4), (1, u "java/lang/Object"), (0, u "<init>"), (0, u "()V"), (0, .long 2147483647), (1, .long 1048575), (1, .class_ 12), (0, u "com/example/ely/ely/probe/CpuQuotaCpusPinLaw"), (0, .long 9223372036854775807), (1, .class_ 16), (0, u "com/example/ely/ely/probe/CpuQuota"), (0, .methodref 15 18), (0, .nameAndType 5 19), (0, u "(JJ)V"), (0, .methodref 15 21), (0, .nameAndType 22 23), (0, u "cpus"), (0, u "()D"), (0, .double 4602678819172646912), (1, .long 2), (1, .methodref 29 30), (0, .class_ 31), (0, .nameAndType 32 33), (0, u "java/lang/Math"), (0, u "max"), (0, u "(JJ)J"), (0, .methodref 29 35), (0, .nameAndType 36 33), (0, u "min"), (0, u "M"), (0, u "J"), (3, u "law"), (0, u "(JJJJJJ)Z")] 3

def k1m0 : Method := { name := "<init>", desc := "()V", sig := { parameters := [], returnType := none }, accessFlags := 1, code := none }
def k1c1 : Code := { maxStack := 6, maxLocals := 54, code := code, exceptionTable := #[], attributes := #[] }
def k1m1 : Method := { name := "law", desc := "(JJJJJJ)Z", sig := { parameters := [.long, .long, .long, .long, .long, .long], returnType := some .boolean }, accessFlags := 9, code := some k1c1 }
/-- com/example/ely/ely/probe/CpuQuotaCpusPinLaw -/
def k1 : Class := { plain "com/example/ely/ely/probe/CpuQuotaCpusPinLaw" (some 0) with
  accessFlags := 49
  interfaces := #[]
  cf := some (fileOf pool1 11 #[] #[{ accessFlags := 1, nameIndex := 5, descriptorIndex := 6, attributes := #[] }, { accessFlags := 9, nameIndex := 42, descriptorIndex := 43, attributes := #[] }] 49 2 #[] #[{ accessFlags := 26, nameIndex := 37, descriptorIndex := 38, attributes := #[] }])
  fields := #[{ name := "M", type := .long, accessFlags := 26, slot := 0, constantValue := 0 }]
  methods := #[k1m0, k1m1]
  instanceTypes := #[]
  staticTypes := #[.long]
  resolved := Array.replicate 47 none
  statics := none }

def pool2 : Array CpInfo := pool [(1, .methodref 2 3), (0, .class_ 4), (0, .nameAndType 5 6), (0, u "java/lang/Object"), (0, u "<init>"), (0, u "()V"), (9, .fieldref 17 18), (0, .class_ 19), (0, .nameAndType 20 21), (0, u "com/example/ely/ely/probe/CpuQuota"), (0, u "quotaMicros"), (0, u "J"), (0, .fieldref 17 23), (0, .nameAndType 24 21), (0, u "periodMicros"), (36, u "(JJ)V"), (35, u "NO_LIMIT"), (0, u "Ljava/lang/String;"), (1, u "CFS_NO_LIMIT"), (0, u "CPU_MAX_FORM"), (0, u "CFS_QUOTA_FORM"), (0, u "CFS_PERIOD_FORM"), (13, u "cpus"), (0, u "()D")] 35

def k2c0 : Code := { maxStack := 6, maxLocals := 5, code := prog_62_method_1_code, exceptionTable := #[], attributes := #[] }
def k2m0 : Method := { name := "<init>", desc := "(JJ)V", sig := { parameters := [.long, .long], returnType := none }, accessFlags := 1, code := some k2c0 }
def k2c1 : Code := { maxStack := 4, maxLocals := 1, code := prog_62_method_7_code, exceptionTable := #[], attributes := #[] }
def k2m1 : Method := { name := "cpus", desc := "()D", sig := { parameters := [], returnType := some .double }, accessFlags := 1, code := some k2c1 }
/-- com/example/ely/ely/probe/CpuQuota -/
def k2 : Class := { plain "com/example/ely/ely/probe/CpuQuota" (some 0) with
  accessFlags := 49
  interfaces := #[]
  cf := some (fileOf pool2 17 #[] #[{ accessFlags := 1, nameIndex := 5, descriptorIndex := 61, attributes := #[] }, { accessFlags := 1, nameIndex := 117, descriptorIndex := 118, attributes := #[] }] 49 2 #[] #[{ accessFlags := 26, nameIndex := 97, descriptorIndex := 98, attributes := #[] }, { accessFlags := 26, nameIndex := 100, descriptorIndex := 98, attributes := #[] }, { accessFlags := 26, nameIndex := 101, descriptorIndex := 98, attributes := #[] }, { accessFlags := 26, nameIndex := 102, descriptorIndex := 98, attributes := #[] }, { accessFlags := 26, nameIndex := 103, descriptorIndex := 98, attributes := #[] }, { accessFlags := 18, nameIndex := 20, descriptorIndex := 21, attributes := #[] }, { accessFlags := 18, nameIndex := 24, descriptorIndex := 21, attributes := #[] }])
  fields := #[{ name := "NO_LIMIT", type := (.object "java/lang/String"), accessFlags := 26, slot := 0, constantValue := 0 }, { name := "CFS_NO_LIMIT", type := (.object "java/lang/String"), accessFlags := 26, slot := 1, constantValue := 0 }, { name := "CPU_MAX_FORM", type := (.object "java/lang/String"), accessFlags := 26, slot := 2, constantValue := 0 }, { name := "CFS_QUOTA_FORM", type := (.object "java/lang/String"), accessFlags := 26, slot := 3, constantValue := 0 }, { name := "CFS_PERIOD_FORM", type := (.object "java/lang/String"), accessFlags := 26, slot := 4, constantValue := 0 }, { name := "quotaMicros", type := .long, accessFlags := 18, slot := 0, constantValue := 0 }, { name := "periodMicros", type := .long, accessFlags := 18, slot := 1, constantValue := 0 }]
  methods := #[k2m0, k2m1]
  instanceTypes := #[.long, .long]
  staticTypes := #[(.object "java/lang/String"), (.object "java/lang/String"), (.object "java/lang/String"), (.object "java/lang/String"), (.object "java/lang/String")]
  resolved := Array.replicate 154 none
  statics := none }

def pool3 : Array CpInfo := pool [(1, .class_ 2), (0, u "java/lang/Math"), (1, .class_ 6), (1, u "java/lang/Object"), (0, u "<init>"), (0, u "()V"), (89, .class_ 100), (1, u "java/lang/Math$RandomNumberGeneratorHolder"), (20, u "(JJ)J"), (50, u "negativeZeroFloatBits"), (0, u "J"), (2, u "negativeZeroDoubleBits"), (21, u "max"), (2, u "min"), (43, u "$assertionsDisabled"), (0, u "Z"), (91, u "twoToTheDoubleScaleDown"), (0, u "D"), (4, u "twoToTheDoubleScaleUp"), (9, u "E"), (3, u "PI"), (2, u "TAU"), (2, u "DEGREES_TO_RADIANS"), (0, u "RADIANS_TO_DEGREES")] 94

def k3m0 : Method := { name := "<init>", desc := "()V", sig := { parameters := [], returnType := none }, accessFlags := 2, code := none }
def k3c1 : Code := { maxStack := 4, maxLocals := 4, code := jdk_29_method_66_code, exceptionTable := #[], attributes := #[] }
def k3m1 : Method := { name := "max", desc := "(JJ)J", sig := { parameters := [.long, .long], returnType := some .long }, accessFlags := 9, code := some k3c1 }
def k3c2 : Code := { maxStack := 4, maxLocals := 4, code := jdk_29_method_70_code, exceptionTable := #[], attributes := #[] }
def k3m2 : Method := { name := "min", desc := "(JJ)J", sig := { parameters := [.long, .long], returnType := some .long }, accessFlags := 9, code := some k3c2 }
/-- java/lang/Math -/
def k3 : Class := { plain "java/lang/Math" (some 0) with
  accessFlags := 49
  interfaces := #[]
  cf := some (fileOf pool3 1 #[.nestMembers #[98]] #[{ accessFlags := 2, nameIndex := 7, descriptorIndex := 8, attributes := #[] }, { accessFlags := 9, nameIndex := 198, descriptorIndex := 121, attributes := #[] }, { accessFlags := 9, nameIndex := 201, descriptorIndex := 121, attributes := #[] }] 49 4 #[] #[{ accessFlags := 25, nameIndex := 354, descriptorIndex := 339, attributes := #[] }, { accessFlags := 25, nameIndex := 358, descriptorIndex := 339, attributes := #[] }, { accessFlags := 25, nameIndex := 361, descriptorIndex := 339, attributes := #[] }, { accessFlags := 26, nameIndex := 364, descriptorIndex := 339, attributes := #[] }, { accessFlags := 26, nameIndex := 365, descriptorIndex := 339, attributes := #[] }, { accessFlags := 26, nameIndex := 172, descriptorIndex := 173, attributes := #[] }, { accessFlags := 26, nameIndex := 176, descriptorIndex := 173, attributes := #[] }, { accessFlags := 8, nameIndex := 344, descriptorIndex := 339, attributes := #[] }, { accessFlags := 8, nameIndex := 338, descriptorIndex := 339, attributes := #[] }, { accessFlags := 4120, nameIndex := 245, descriptorIndex := 246, attributes := #[] }])
  fields := #[{ name := "E", type := .double, accessFlags := 25, slot := 0, constantValue := 0 }, { name := "PI", type := .double, accessFlags := 25, slot := 1, constantValue := 0 }, { name := "TAU", type := .double, accessFlags := 25, slot := 2, constantValue := 0 }, { name := "DEGREES_TO_RADIANS", type := .double, accessFlags := 26, slot := 3, constantValue := 0 }, { name := "RADIANS_TO_DEGREES", type := .double, accessFlags := 26, slot := 4, constantValue := 0 }, { name := "negativeZeroFloatBits", type := .long, accessFlags := 26, slot := 5, constantValue := 0 }, { name := "negativeZeroDoubleBits", type := .long, accessFlags := 26, slot := 6, constantValue := 0 }, { name := "twoToTheDoubleScaleUp", type := .double, accessFlags := 8, slot := 7, constantValue := 0 }, { name := "twoToTheDoubleScaleDown", type := .double, accessFlags := 8, slot := 8, constantValue := 0 }, { name := "$assertionsDisabled", type := .boolean, accessFlags := 4120, slot := 9, constantValue := 0 }]
  methods := #[k3m0, k3m1, k3m2]
  instanceTypes := #[]
  staticTypes := #[.double, .double, .double, .double, .double, .long, .long, .double, .double, .boolean]
  resolved := Array.replicate 460 none
  statics := none }

def pool4 : Array CpInfo := pool [(1, u "java/lang/Cloneable"), (0, .class_ 1), (0, u "java/lang/Object"), (0, .class_ 3)] 3

/-- java/lang/Cloneable -/
def k4 : Class := { plain "java/lang/Cloneable" (some 0) with
  accessFlags := 1537
  interfaces := #[]
  cf := some (fileOf pool4 2 #[] #[] 1537 4 #[] #[])
  fields := #[]
  methods := #[]
  instanceTypes := #[]
  staticTypes := #[]
  resolved := Array.replicate 8 none
  statics := none }

def pool5 : Array CpInfo := pool [(1, u "java/io/Serializable"), (0, .class_ 1), (0, u "java/lang/Object"), (0, .class_ 3)] 3

/-- java/io/Serializable -/
def k5 : Class := { plain "java/io/Serializable" (some 0) with
  accessFlags := 1537
  interfaces := #[]
  cf := some (fileOf pool5 2 #[] #[] 1537 4 #[] #[])
  fields := #[]
  methods := #[]
  instanceTypes := #[]
  staticTypes := #[]
  resolved := Array.replicate 8 none
  statics := none }

/-- the primitive byte -/
def k6 : Class := { plain "byte" none with kind := .primitive 'B', accessFlags := 0x411 }
/-- [B -/
def k7 : Class := { plain "[B" (some 0) with kind := .array 6 .byte, interfaces := #[4, 5], accessFlags := 1041 }

/-- the primitive int -/
def k8 : Class := { plain "int" none with kind := .primitive 'I', accessFlags := 0x411 }
/-- [I -/
def k9 : Class := { plain "[I" (some 0) with kind := .array 8 .int, interfaces := #[4, 5], accessFlags := 1041 }

def heap : Heap := #[]
def classes : Array Class := #[k0, k1, k2, k3, k4, k5, k6, k7, k8, k9]
def interned : List (Array UInt16 × Addr) := []
def slotsUsed : Nat := 0
def theMethod : MethodId := ⟨1, 1⟩
def args0 : Array Value := #[.long 5, .long 5, .long 5, .long 5, .long 5, .long 5]
def aboutOver (below : List Frame) : State where
  vm := { classes := classes, interned := interned.toArray }
  heap := heap
  slotsUsed := slotsUsed
  threads := #[{ frames := .invoking theMethod args0 :: below }]
def below0 : List Frame := [.native { method := ⟨0, 0⟩, args := #[] }]
def about1 : State := aboutOver below0
def p0 : Program := .bare "" "" ""
def e0 : Env := launch0.env 0 0 0
theorem w_frames : about1.frames = Frame.invoking theMethod args0 :: below0 := rfl
set_option maxRecDepth 65536 in
theorem w_args : argsFit about1.vm theMethod args0 = true := by decide +kernel
set_option maxRecDepth 65536 in
theorem w_heap : heapFits about1 = true := by decide +kernel
set_option maxRecDepth 65536 in
theorem w_runnable : about1.curStatus? = some .runnable := by decide +kernel
set_option maxRecDepth 65536 in
theorem w_alone : about1.alone = true := by decide +kernel
set_option maxRecDepth 65536 in
theorem w_named : about1.methodNamed? x = some theMethod := by decide +kernel
set_option maxRecDepth 65536 in
theorem w_hears : about1.hears theMethod below0 = true := by decide +kernel
set_option maxRecDepth 65536 in
theorem w_ripe : about1.ripe theMethod args0 below0 = true := by decide +kernel
theorem w_running : about1.status = .running := rfl
set_option maxRecDepth 65536 in
theorem w_room : about1.hasRoom e0.platform room_1 = true :=
  launch0.hasRoom_least _ room_1 (by decide +kernel) (by decide +kernel) (by decide +kernel) (by decide +kernel) (by decide +kernel) (by decide +kernel)
theorem allAtoms_all (ts : List Jvm.Cond) (a : Array Jvm.Value) (st : Jvm.State) : (allAtoms ts).before a st = ts.all (fun c => c.before a st) := by
  induction ts with
  | nil => rfl
  | cons c t ih =>
    show (Jvm.Cond.and c (allAtoms t)).before a st = _
    rw [Jvm.Cond.before_and, ih, List.all_cons]
def words1 : List Jvm.Cond := Jvm.Cond.code x code maxLocals ret :: tables_1
/-- a 'code' word, met by the world's own term for the bytes: nothing is compared byte by byte -/
theorem code_word {y : MethodName} {bytes : ByteArray} {mx : Nat} {rt : Option FieldType} {a : Array Value} {s : State} {m : MethodId} {meth : Method} {c : Code} (h1 : s.methodNamed? y = some m) (h2 : s.vm.method? m = some meth) (h3 : meth.code = some c) (h4 : c.code = bytes)
    (h5 : (c.maxLocals == mx && c.exceptionTable.isEmpty && decide (c.maxStack ≤ mostOperands) && decide (meth.sig.returnType = rt) && !meth.locks && decide (parseMethodDescriptor y.desc = some meth.sig)) = true) : (Jvm.Cond.code y bytes mx rt).before a s = true := by
  simp only [Bool.and_eq_true, beq_iff_eq, Bool.not_eq_true', decide_eq_true_eq] at h5
  obtain ⟨⟨⟨⟨⟨g1, g2⟩, g3⟩, g4⟩, g5⟩, g6⟩ := h5
  simp [Cond.before, Cond.holds, Cond.value, h1, h2, h3, h4, g1, g2, g3, g4, g5, g6]
def isCode : Jvm.Cond → Bool
  | .code _ _ _ _ => true
  | _ => false
theorem all_split {L : List Jvm.Cond} {P : Jvm.Cond → Bool} (h1 : L.all (fun c => isCode c || P c) = true) (h2 : ∀ c ∈ L.filter isCode, P c = true) : L.all P = true := by
  refine List.all_eq_true.mpr fun c hc => ?_
  have h := List.all_eq_true.mp h1 c hc
  rcases Bool.eq_false_or_eq_true (isCode c) with hi | hi
  · exact h2 c (List.mem_filter.mpr ⟨hc, hi⟩)
  · simpa [hi] using h
set_option maxRecDepth 65536 in
theorem w_c0 : (Jvm.Cond.code x code maxLocals ret).before args0 about1 = true := code_word (m := ⟨1, 1⟩) (meth := k1m1) (c := k1c1) (by decide +kernel) rfl rfl rfl (by decide +kernel)
set_option maxRecDepth 65536 in
theorem w_c1 : (Jvm.Cond.code ({ cls := "com/example/ely/ely/probe/CpuQuota", name := "<init>", desc := "(JJ)V" } : Jvm.MethodName) prog_62_method_1_code (5 : Nat) (Option.none : Option Jvm.ClassFile.FieldType)).before args0 about1 = true := code_word (m := ⟨2, 0⟩) (meth := k2m0) (c := k2c0) (by decide +kernel) rfl rfl rfl (by decide +kernel)
set_option maxRecDepth 65536 in
theorem w_c2 : (Jvm.Cond.code ({ cls := "java/lang/Object", name := "<init>", desc := "()V" } : Jvm.MethodName) object_method_1_code (1 : Nat) (Option.none : Option Jvm.ClassFile.FieldType)).before args0 about1 = true := code_word (m := ⟨0, 0⟩) (meth := k0m0) (c := k0c0) (by decide +kernel) rfl rfl rfl (by decide +kernel)
set_option maxRecDepth 65536 in
theorem w_c3 : (Jvm.Cond.code ({ cls := "com/example/ely/ely/probe/CpuQuota", name := "cpus", desc := "()D" } : Jvm.MethodName) prog_62_method_7_code (1 : Nat) (Option.some Jvm.ClassFile.FieldType.double)).before args0 about1 = true := code_word (m := ⟨2, 1⟩) (meth := k2m1) (c := k2c1) (by decide +kernel) rfl rfl rfl (by decide +kernel)
set_option maxRecDepth 65536 in
theorem w_c4 : (Jvm.Cond.code ({ cls := "java/lang/Math", name := "max", desc := "(JJ)J" } : Jvm.MethodName) jdk_29_method_66_code (4 : Nat) (Option.some Jvm.ClassFile.FieldType.long)).before args0 about1 = true := code_word (m := ⟨3, 1⟩) (meth := k3m1) (c := k3c1) (by decide +kernel) rfl rfl rfl (by decide +kernel)
set_option maxRecDepth 65536 in
theorem w_c5 : (Jvm.Cond.code ({ cls := "java/lang/Math", name := "min", desc := "(JJ)J" } : Jvm.MethodName) jdk_29_method_70_code (4 : Nat) (Option.some Jvm.ClassFile.FieldType.long)).before args0 about1 = true := code_word (m := ⟨3, 2⟩) (meth := k3m2) (c := k3c2) (by decide +kernel) rfl rfl rfl (by decide +kernel)
def codes1 : List Jvm.Cond := [Jvm.Cond.code x code maxLocals ret, Jvm.Cond.code ({ cls := "com/example/ely/ely/probe/CpuQuota", name := "<init>", desc := "(JJ)V" } : Jvm.MethodName) prog_62_method_1_code (5 : Nat) (Option.none : Option Jvm.ClassFile.FieldType), Jvm.Cond.code ({ cls := "java/lang/Object", name := "<init>", desc := "()V" } : Jvm.MethodName) object_method_1_code (1 : Nat) (Option.none : Option Jvm.ClassFile.FieldType), Jvm.Cond.code ({ cls := "com/example/ely/ely/probe/CpuQuota", name := "cpus", desc := "()D" } : Jvm.MethodName) prog_62_method_7_code (1 : Nat) (Option.some Jvm.ClassFile.FieldType.double), Jvm.Cond.code ({ cls := "java/lang/Math", name := "max", desc := "(JJ)J" } : Jvm.MethodName) jdk_29_method_66_code (4 : Nat) (Option.some Jvm.ClassFile.FieldType.long), Jvm.Cond.code ({ cls := "java/lang/Math", name := "min", desc := "(JJ)J" } : Jvm.MethodName) jdk_29_method_70_code (4 : Nat) (Option.some Jvm.ClassFile.FieldType.long)]
set_option maxRecDepth 65536 in
theorem codes_eq : words1.filter isCode = codes1 := rfl
theorem w_codes : ∀ c ∈ words1.filter isCode, c.before args0 about1 = true := by
  rw [codes_eq]
  intro c hc
  simp only [codes1, List.mem_cons, List.not_mem_nil, or_false] at hc
  rcases hc with rfl | rfl | rfl | rfl | rfl | rfl
  · exact w_c0
  · exact w_c1
  · exact w_c2
  · exact w_c3
  · exact w_c4
  · exact w_c5
set_option maxRecDepth 65536 in
theorem w_t1 : (words1.take 24).all (fun c => isCode c || c.before args0 about1) = true := by decide +kernel
set_option maxRecDepth 65536 in
theorem w_t2 : (words1.drop 24).all (fun c => isCode c || c.before args0 about1) = true := by decide +kernel
theorem w_tables : (allAtoms (Jvm.Cond.code x code maxLocals ret :: tables_1)).before args0 about1 = true := by
  rw [allAtoms_all]
  show words1.all (fun c => c.before args0 about1) = true
  refine all_split ?_ w_codes
  rw [← List.take_append_drop 24 words1, List.all_append, w_t1, w_t2]
  rfl
set_option maxRecDepth 65536 in
theorem w_case : (Jvm.Cond.and given_1 narrow_1).before args0 about1 = true := by decide +kernel
theorem w_applies : (headSpec (Jvm.Cond.code x code maxLocals ret :: tables_1) room_1).applies x e0.platform about1 = true :=
  (Spec.applies_iff w_frames).mpr ⟨w_running, w_runnable, w_alone, w_named, w_hears, w_ripe, w_room, w_tables⟩
theorem atStart : AtStart classFile x code maxLocals ret World_1 tables_1 room_1 Calls_1 rest_1 Pre_1 launch0 p0 e0 about1 theMethod args0 below0 :=
  ⟨lists_1, trivial, launch0.admits_env _ _ _, launch0.least_env, fairChoices_fair.cas, fairChoices_fair.clock, w_frames, w_args, w_heap, w_applies, trivial, trivial, w_case⟩
end start1
theorem witness_1 : WitnessClaimed_1 := ⟨start1.p0, start1.e0, start1.about1, start1.theMethod, start1.args0, start1.below0, start1.atStart⟩
end Jvm.Pilot.@@N@@

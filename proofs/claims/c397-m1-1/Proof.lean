import JvmDerived
import JvmDerived.Pilot.@@N@@Statement
import JvmDerived.Pilot.@@N@@Code
set_option linter.unusedVariables false
set_option linter.unusedSimpArgs false
namespace Jvm.Pilot.@@N@@
open Jvm Jvm.ClassFile Sem Op Lib Jvm.Free Jvm.Stand Jvm.LawKit Jvm.RoadKit Bundle Jvm.Pilot.@@N@@.Jvm.D
def Go (p : Program) (e : Env) (below : List Frame) (s : State) (Q : Option Value → Heap → List Loc → Prop) (C S : Nat) (V : State) : Prop :=
  ∃ (U : State) (o : Outcome), Steps p.tables e below V U ∧ U.status = .running ∧ Ended U below o ∧ ∃ v L, o = .returned v ∧ Q v U.heap L ∧ FrameEnd s o U L C S
def Ga (p : Program) (e : Env) (below : List Frame) (s : State) (Q : Option Value → Heap → List Loc → Prop) (C S : Nat) (T : State) (m : MethodId) (pc : Nat) (Ls : Array Slot) (st : List Value) : Prop :=
  Go p e below s Q C S (T.setTop (mkF m pc Ls st))
abbrev Ct (l : Launch) (Z : State) (y : MethodName) (bytes : ByteArray) (maxL : Nat) (ret : Option FieldType) (ws : List Jvm.Cond) (rm : Room) (as' : Array Value) (h0 : Heap) (Q : Option Value → Heap → List Loc → Prop) : Prop :=
  MetFree l y (head1 (Jvm.Cond.code y bytes maxL ret :: ws) rm) (fun a U => a = as' ∧ Z.Warmed39 U.vm ∧ U.heap = h0) (fun _ _ _ _ _ => True) (fun _ U o U' => ∃ v L, o = .returned v ∧ Q v U'.heap L ∧ FrameEnd U o U' L rm.cells rm.slots)
section GoKit
variable {p : Program} {l : Launch} {e : Env} {R : Room} {s : State} {m : MethodId} {args : Array Value} {below : List Frame} {meth : Method} {c : Code} {T T' : State} {locs : List Loc} {cells slots : Nat} {Q : Option Value → Heap → List Loc → Prop} {C S : Nat} {Z : State} {a0 : Array Value} {h : Heap} {pc q pc' : Nat} {Ls Ls' : Array Slot} {st st' : List Value} {own : String}
theorem Ga.stp (k : ∀ t, Steps p.tables e below (T'.setTop (mkF m pc' Ls' st')) t → Steps p.tables e below (T.setTop (mkF m pc Ls st)) t) (g : Ga p e below s Q C S T' m pc' Ls' st') : Ga p e below s Q C S T m pc Ls st := by
  obtain ⟨U, o, h, r⟩ := g
  exact ⟨U, o, k _ h, r⟩
theorem own_body {y : MethodName} {bytes : ByteArray} {maxL : Nat} {ret : Option FieldType} {ws : List Jvm.Cond} {rm : Room} {h0 : Heap} {as' : Array Value} (hpl : plainFor y = true) (hef : ∀ m, entryFrame m as' maxL = mkF m 0 Ls [])
    (body : ∀ (p : Program) (e : Env) (s : State) (m : MethodId) (below : List Frame) (meth : Method) (c : Code) (T : State), p.tables.exec = Jvm.exec → c.code = bytes → c.maxLocals = maxL → Z.Warmed39 s.vm → s.vm.findClass y.cls = some m.cls → meth.name = y.name → meth.sig.returnType = ret → meth.locks = false →
      Stand p l e rm s m as' below meth c T [] 0 0 → T.heap = h0 → Ga p e below s Q rm.cells rm.slots T m 0 Ls []) : Ct l Z y bytes maxL ret ws rm as' h0 Q := by
  refine MetFree.of_bodySF hpl hisR ?_
  intro p e s m args below meth c s₁ Bd hml0 hP hK
  obtain ⟨rfl, hZ, hh⟩ := hP
  have X0 : Stand p l e rm s m args below meth c s₁ [] 0 0 := Stand.of_body Bd
  have e0 : s₁.heap = h0 := by rw [← hh, Bd.state]; rfl
  obtain ⟨U, o, g1, g2⟩ := body p e s m below meth c s₁ Bd.exec Bd.bytes hml0 hZ (findClass_of_methodNamed Bd.named) (name_of_methodNamed Bd.named Bd.method).1 Bd.returns (BodyLoose.notSynchronized Bd) X0 e0
  exact ⟨U, o, castTop (hef m) g1, g2⟩
theorem Ga.out (X : Stand p l e R s m args below meth c T locs cells slots) {v : Option Value} (hlk : meth.locks = false) (hv : meth.sig.returnType = none → v = none) (hc : cells ≤ C) (hs : slots ≤ S) (hq : Q v T.heap locs)
    (k : ∀ fs, (∀ (f : JFrame) (acts : List Action), f.method = m → f.locked = none → f.entered = [] → (doReturn e (T.setTop f) acts v).1 = T.setFrames fs) → Steps p.tables e below (T.setTop (mkF m pc Ls st)) (T.setFrames fs)) : Ga p e below s Q C S T m pc Ls st := by
  obtain ⟨fs, hr, hrun, hended, hW, hsame⟩ := X.leave (v := v) hv hlk
  exact ⟨_, _, k fs hr, hrun, hended, _, _, rfl, hq, ⟨_, rfl⟩, hW, hsame.mono hc hs⟩
theorem g_iloadN (X : Stand p l e R s m args below meth c T locs cells slots) (hx : p.tables.exec = Jvm.exec) {k : Fin 4} {v : Int32} (hd : decode c.code pc = .ok (.iload_n k, 1)) (hp : pc + 1 = q) (hl : Ls[k.val]? = some (.val (.int v))) (g : Ga p e below s Q C S T m q Ls (.int v :: st)) : Ga p e below s Q C S T m pc Ls st := by
  subst hp
  exact Ga.stp (fun _ k => XS.iloadN X.here hx rfl hd hl k) g
theorem g_iload (X : Stand p l e R s m args below meth c T locs cells slots) (hx : p.tables.exec = Jvm.exec) {k : Nat} {v : Int32} (hd : decode c.code pc = .ok (.iload k, 2)) (hp : pc + 2 = q) (hl : Ls[k]? = some (.val (.int v))) (g : Ga p e below s Q C S T m q Ls (.int v :: st)) : Ga p e below s Q C S T m pc Ls st := by
  subst hp
  exact Ga.stp (fun _ k => XS.iload X.here hx rfl hd hl k) g
theorem g_lloadN (X : Stand p l e R s m args below meth c T locs cells slots) (hx : p.tables.exec = Jvm.exec) {k : Fin 4} {v : Int64} (hd : decode c.code pc = .ok (.lload_n k, 1)) (hp : pc + 1 = q) (hl : Ls[k.val]? = some (.val (.long v))) (g : Ga p e below s Q C S T m q Ls (.long v :: st)) : Ga p e below s Q C S T m pc Ls st := by
  subst hp
  exact Ga.stp (fun _ k => XS.lloadN X.here hx rfl hd hl k) g
theorem g_lload (X : Stand p l e R s m args below meth c T locs cells slots) (hx : p.tables.exec = Jvm.exec) {k : Nat} {v : Int64} (hd : decode c.code pc = .ok (.lload k, 2)) (hp : pc + 2 = q) (hl : Ls[k]? = some (.val (.long v))) (g : Ga p e below s Q C S T m q Ls (.long v :: st)) : Ga p e below s Q C S T m pc Ls st := by
  subst hp
  exact Ga.stp (fun _ k => XS.lload X.here hx rfl hd hl k) g
theorem g_aloadN (X : Stand p l e R s m args below meth c T locs cells slots) (hx : p.tables.exec = Jvm.exec) {k : Fin 4} {v : Value} (hd : decode c.code pc = .ok (.aload_n k, 1)) (hp : pc + 1 = q) (hl : Ls[k.val]? = some (.val v)) (hv : v.isRef = true) (g : Ga p e below s Q C S T m q Ls (v :: st)) : Ga p e below s Q C S T m pc Ls st := by
  subst hp
  exact Ga.stp (fun _ k => XS.aloadN X.here hx rfl hd hl hv k) g
theorem g_aload (X : Stand p l e R s m args below meth c T locs cells slots) (hx : p.tables.exec = Jvm.exec) {k : Nat} {v : Value} (hd : decode c.code pc = .ok (.aload k, 2)) (hp : pc + 2 = q) (hl : Ls[k]? = some (.val v)) (hv : v.isRef = true) (g : Ga p e below s Q C S T m q Ls (v :: st)) : Ga p e below s Q C S T m pc Ls st := by
  subst hp
  exact Ga.stp (fun _ k => XS.aload X.here hx rfl hd hl hv k) g
theorem g_istore (X : Stand p l e R s m args below meth c T locs cells slots) (hx : p.tables.exec = Jvm.exec) {k : Nat} {x : Int32} (hd : decode c.code pc = .ok (.istore k, 2)) (hp : pc + 2 = q) (hl : storeLocals Ls k (.int x) = some Ls') (g : Ga p e below s Q C S T m q Ls' st) : Ga p e below s Q C S T m pc Ls (.int x :: st) := by
  subst hp
  exact Ga.stp (fun _ k => XS.istore X.here hx rfl hd rfl hl k) g
theorem g_lstore (X : Stand p l e R s m args below meth c T locs cells slots) (hx : p.tables.exec = Jvm.exec) {k : Nat} {x : Int64} (hd : decode c.code pc = .ok (.lstore k, 2)) (hp : pc + 2 = q) (hl : storeLocals Ls k (.long x) = some Ls') (g : Ga p e below s Q C S T m q Ls' st) : Ga p e below s Q C S T m pc Ls (.long x :: st) := by
  subst hp
  exact Ga.stp (fun _ k => XS.lstore X.here hx rfl hd rfl hl k) g
theorem g_astore (X : Stand p l e R s m args below meth c T locs cells slots) (hx : p.tables.exec = Jvm.exec) {k : Nat} {x : Value} (hd : decode c.code pc = .ok (.astore k, 2)) (hp : pc + 2 = q) (hv : x.isRef = true) (hl : storeLocals Ls k x = some Ls') (g : Ga p e below s Q C S T m q Ls' st) : Ga p e below s Q C S T m pc Ls (x :: st) := by
  subst hp
  exact Ga.stp (fun _ k => XS.astore X.here hx rfl hd rfl hv hl k) g
theorem g_iconst (X : Stand p l e R s m args below meth c T locs cells slots) (hx : p.tables.exec = Jvm.exec) {i : Int} {r : Int32} (hd : decode c.code pc = .ok (.iconst i, 1)) (hp : pc + 1 = q) (hr : Int32.ofInt i = r) (g : Ga p e below s Q C S T m q Ls (.int r :: st)) : Ga p e below s Q C S T m pc Ls st := by
  subst hp hr
  exact Ga.stp (fun _ k => XS.iconst X.here hx rfl hd k) g
theorem g_bipush (X : Stand p l e R s m args below meth c T locs cells slots) (hx : p.tables.exec = Jvm.exec) {i : Int} {r : Int32} (hd : decode c.code pc = .ok (.bipush i, 2)) (hp : pc + 2 = q) (hr : (Int8.ofInt i).toInt32 = r) (g : Ga p e below s Q C S T m q Ls (.int r :: st)) : Ga p e below s Q C S T m pc Ls st := by
  subst hp hr
  exact Ga.stp (fun _ k => XS.bipush X.here hx rfl hd k) g
theorem g_iand (X : Stand p l e R s m args below meth c T locs cells slots) (hx : p.tables.exec = Jvm.exec) {x y r : Int32} (hd : decode c.code pc = .ok (.iand, 1)) (hp : pc + 1 = q) (hr : x &&& y = r) (g : Ga p e below s Q C S T m q Ls (.int r :: st)) : Ga p e below s Q C S T m pc Ls (.int y :: .int x :: st) := by
  subst hp hr
  exact Ga.stp (fun _ k => XS.iand X.here hx rfl hd rfl k) g
theorem g_ladd (X : Stand p l e R s m args below meth c T locs cells slots) (hx : p.tables.exec = Jvm.exec) {x y r : Int64} (hd : decode c.code pc = .ok (.ladd, 1)) (hp : pc + 1 = q) (hr : x + y = r) (g : Ga p e below s Q C S T m q Ls (.long r :: st)) : Ga p e below s Q C S T m pc Ls (.long y :: .long x :: st) := by
  subst hp hr
  exact Ga.stp (fun _ k => XS.ladd X.here hx rfl hd rfl k) g
theorem g_lmul (X : Stand p l e R s m args below meth c T locs cells slots) (hx : p.tables.exec = Jvm.exec) {x y r : Int64} (hd : decode c.code pc = .ok (.lmul, 1)) (hp : pc + 1 = q) (hr : x * y = r) (g : Ga p e below s Q C S T m q Ls (.long r :: st)) : Ga p e below s Q C S T m pc Ls (.long y :: .long x :: st) := by
  subst hp hr
  exact Ga.stp (fun _ k => XS.lmul X.here hx rfl hd rfl k) g
theorem g_lushr (X : Stand p l e R s m args below meth c T locs cells slots) (hx : p.tables.exec = Jvm.exec) {x r : Int64} {y : Int32} (hd : decode c.code pc = .ok (.lushr, 1)) (hp : pc + 1 = q) (hr : (x.toUInt64 >>> (y &&& 0x3f).toInt64.toUInt64).toInt64 = r) (g : Ga p e below s Q C S T m q Ls (.long r :: st)) : Ga p e below s Q C S T m pc Ls (.int y :: .long x :: st) := by
  subst hp hr
  exact Ga.stp (fun _ k => XS.lushr X.here hx rfl hd rfl k) g
theorem g_i2s (X : Stand p l e R s m args below meth c T locs cells slots) (hx : p.tables.exec = Jvm.exec) {x : Int32} {r : Int32} (hd : decode c.code pc = .ok (.i2s, 1)) (hp : pc + 1 = q) (hr : x.toInt16.toInt32 = r) (g : Ga p e below s Q C S T m q Ls (.int r :: st)) : Ga p e below s Q C S T m pc Ls (.int x :: st) := by
  subst hp hr
  exact Ga.stp (fun _ k => XS.i2s X.here hx rfl hd rfl k) g
theorem g_i2l (X : Stand p l e R s m args below meth c T locs cells slots) (hx : p.tables.exec = Jvm.exec) {x : Int32} {r : Int64} (hd : decode c.code pc = .ok (.i2l, 1)) (hp : pc + 1 = q) (hr : x.toInt64 = r) (g : Ga p e below s Q C S T m q Ls (.long r :: st)) : Ga p e below s Q C S T m pc Ls (.int x :: st) := by
  subst hp hr
  exact Ga.stp (fun _ k => XS.i2l X.here hx rfl hd rfl k) g
theorem g_l2i (X : Stand p l e R s m args below meth c T locs cells slots) (hx : p.tables.exec = Jvm.exec) {x : Int64} {r : Int32} (hd : decode c.code pc = .ok (.l2i, 1)) (hp : pc + 1 = q) (hr : x.toInt32 = r) (g : Ga p e below s Q C S T m q Ls (.int r :: st)) : Ga p e below s Q C S T m pc Ls (.long x :: st) := by
  subst hp hr
  exact Ga.stp (fun _ k => XS.l2i X.here hx rfl hd rfl k) g
theorem g_dup2 (X : Stand p l e R s m args below meth c T locs cells slots) (hx : p.tables.exec = Jvm.exec) {x y : Value} (hd : decode c.code pc = .ok (.dup2, 1)) (hp : pc + 1 = q) (hc : x.category = 1) (hc' : y.category = 1) (g : Ga p e below s Q C S T m q Ls (x :: y :: x :: y :: st)) : Ga p e below s Q C S T m pc Ls (x :: y :: st) := by
  subst hp
  exact Ga.stp (fun _ k => XT.dup2 X.here hx rfl hd rfl hc hc' k) g
theorem g_iinc (X : Stand p l e R s m args below meth c T locs cells slots) (hx : p.tables.exec = Jvm.exec) {k : Nat} {cst : Int} {x r : Int32} (hd : decode c.code pc = .ok (.iinc k cst, 3)) (hp : pc + 3 = q) (hl : Ls[k]? = some (.val (.int x))) (hr : x + Int32.ofInt cst = r) (hl' : storeLocals Ls k (.int r) = some Ls') (g : Ga p e below s Q C S T m q Ls' st) : Ga p e below s Q C S T m pc Ls st := by
  subst hp hr
  exact Ga.stp (fun _ k => XS.iinc X.here hx rfl hd hl hl' k) g
theorem g_goto (X : Stand p l e R s m args below meth c T locs cells slots) (hx : p.tables.exec = Jvm.exec) {o : Int} (hd : decode c.code pc = .ok (.goto o, 3)) (ho : 0 ≤ (pc : Int) + o) (hp : ((pc : Int) + o).toNat = q) (g : Ga p e below s Q C S T m q Ls st) : Ga p e below s Q C S T m pc Ls st :=
  Ga.stp (fun _ k => XS.goto X.here hx rfl rfl hd ho hp k) g
theorem g_ifY (X : Stand p l e R s m args below meth c T locs cells slots) (hx : p.tables.exec = Jvm.exec) {cd : ClassFile.Cond} {x : Int32} {o : Int} (hd : decode c.code pc = .ok (.ifCond cd o, 3)) (hc : ifCond.holds cd x = true) (ho : 0 ≤ (pc : Int) + o) (hp : ((pc : Int) + o).toNat = q) (g : Ga p e below s Q C S T m q Ls st) : Ga p e below s Q C S T m pc Ls (.int x :: st) :=
  Ga.stp (fun _ k => XS.ifYes X.here hx rfl rfl hd rfl hc ho hp k) g
theorem g_ifN (X : Stand p l e R s m args below meth c T locs cells slots) (hx : p.tables.exec = Jvm.exec) {cd : ClassFile.Cond} {x : Int32} {o : Int} (hd : decode c.code pc = .ok (.ifCond cd o, 3)) (hp : pc + 3 = q) (hc : ifCond.holds cd x = false) (g : Ga p e below s Q C S T m q Ls st) : Ga p e below s Q C S T m pc Ls (.int x :: st) := by
  subst hp
  exact Ga.stp (fun _ k => XS.ifNo X.here hx rfl hd rfl hc k) g
theorem g_icmpY (X : Stand p l e R s m args below meth c T locs cells slots) (hx : p.tables.exec = Jvm.exec) {cd : ClassFile.Cond} {x y : Int32} {o : Int} (hd : decode c.code pc = .ok (.if_icmp cd o, 3)) (hc : if_icmp.holds cd x y = true) (ho : 0 ≤ (pc : Int) + o) (hp : ((pc : Int) + o).toNat = q) (g : Ga p e below s Q C S T m q Ls st) : Ga p e below s Q C S T m pc Ls (.int y :: .int x :: st) :=
  Ga.stp (fun _ k => XS.icmpYes X.here hx rfl rfl hd rfl hc ho hp k) g
theorem g_icmpN (X : Stand p l e R s m args below meth c T locs cells slots) (hx : p.tables.exec = Jvm.exec) {cd : ClassFile.Cond} {x y : Int32} {o : Int} (hd : decode c.code pc = .ok (.if_icmp cd o, 3)) (hp : pc + 3 = q) (hc : if_icmp.holds cd x y = false) (g : Ga p e below s Q C S T m q Ls st) : Ga p e below s Q C S T m pc Ls (.int y :: .int x :: st) := by
  subst hp
  exact Ga.stp (fun _ k => XS.icmpNo X.here hx rfl hd rfl hc k) g
theorem g_dloadN (X : Stand p l e R s m args below meth c T locs cells slots) (hx : p.tables.exec = Jvm.exec) {k : Fin 4} {v : UInt64} (hd : decode c.code pc = .ok (.dload_n k, 1)) (hp : pc + 1 = q) (hl : Ls[k.val]? = some (.val (.double v))) (g : Ga p e below s Q C S T m q Ls (.double v :: st)) : Ga p e below s Q C S T m pc Ls st := by
  subst hp
  exact Ga.stp (fun _ k => XS.dloadN X.here hx rfl hd hl k) g
theorem g_i2d (X : Stand p l e R s m args below meth c T locs cells slots) (hx : p.tables.exec = Jvm.exec) {x : Int32} (hd : decode c.code pc = .ok (.i2d, 1)) (hp : pc + 1 = q)  (g : Ga p e below s Q C S T m q Ls (.double (FP.i2d x) :: st)) : Ga p e below s Q C S T m pc Ls (.int x :: st) := by
  subst hp
  exact Ga.stp (fun _ k => XS.i2dS X.here hx rfl hd rfl rfl k) g
theorem g_l2d (X : Stand p l e R s m args below meth c T locs cells slots) (hx : p.tables.exec = Jvm.exec) {x : Int64} (hd : decode c.code pc = .ok (.l2d, 1)) (hp : pc + 1 = q)  (g : Ga p e below s Q C S T m q Ls (.double (FP.l2d x) :: st)) : Ga p e below s Q C S T m pc Ls (.long x :: st) := by
  subst hp
  exact Ga.stp (fun _ k => XS.l2dS X.here hx rfl hd rfl rfl k) g
theorem g_dadd (X : Stand p l e R s m args below meth c T locs cells slots) (hx : p.tables.exec = Jvm.exec) {x y : UInt64} (hd : decode c.code pc = .ok (.dadd, 1)) (hp : pc + 1 = q) (hn : Jvm.Free.Fl.NoNaN64 (FP.dadd x y)) (g : Ga p e below s Q C S T m q Ls (.double (FP.dadd x y) :: st)) : Ga p e below s Q C S T m pc Ls (.double y :: .double x :: st) := by
  subst hp
  exact Ga.stp (fun _ k => XS.daddS X.here hx rfl hd rfl hn rfl k) g
theorem g_dmul (X : Stand p l e R s m args below meth c T locs cells slots) (hx : p.tables.exec = Jvm.exec) {x y : UInt64} (hd : decode c.code pc = .ok (.dmul, 1)) (hp : pc + 1 = q) (hn : Jvm.Free.Fl.NoNaN64 (FP.dmul x y)) (g : Ga p e below s Q C S T m q Ls (.double (FP.dmul x y) :: st)) : Ga p e below s Q C S T m pc Ls (.double y :: .double x :: st) := by
  subst hp
  exact Ga.stp (fun _ k => XS.dmulS X.here hx rfl hd rfl hn rfl k) g
theorem g_dcmp (X : Stand p l e R s m args below meth c T locs cells slots) (hx : p.tables.exec = Jvm.exec) {o : CmpOp} {x y : UInt64} (hd : decode c.code pc = .ok (.dcmp o, 1)) (hp : pc + 1 = q)  (g : Ga p e below s Q C S T m q Ls (.int (cmpValue (FP.dcmp x y) o) :: st)) : Ga p e below s Q C S T m pc Ls (.double y :: .double x :: st) := by
  subst hp
  exact Ga.stp (fun _ k => XS.dcmpS X.here hx rfl hd rfl rfl k) g
theorem g_retN (X : Stand p l e R s m args below meth c T locs cells slots) (hx : p.tables.exec = Jvm.exec) {z r : Int32} {t : FieldType} (hret : meth.sig.returnType = some t) (ht : t = .boolean ∨ t = .byte ∨ t = .char ∨ t = .short) (hlk : meth.locks = false) (hd : decode c.code pc = .ok (.ireturn, 1)) (hr : nar t z = r) (hc : cells ≤ C) (hs : slots ≤ S) (hq : Q (some (.int r)) T.heap locs) : Ga p e below s Q C S T m pc Ls (.int z :: st) := by
  subst hr
  exact Ga.out X hlk (fun h => by rw [hret] at h; cases h) hc hs hq fun fs hr => retN X hx hret ht hd hr
theorem g_ret (X : Stand p l e R s m args below meth c T locs cells slots) (hx : p.tables.exec = Jvm.exec) (hret : meth.sig.returnType = none) (hlk : meth.locks = false) (hd : decode c.code pc = .ok (.return_, 1)) (hc : cells ≤ C) (hs : slots ≤ S) (hq : Q none T.heap locs) : Ga p e below s Q C S T m pc Ls [] :=
  Ga.out X hlk (fun _ => rfl) hc hs hq fun fs hr => X.returnOut hx hret hd hr
theorem g_static (X : Stand p l e R s m args below meth c T locs cells slots) (hx : p.tables.exec = Jvm.exec) (hZ : Z.Warmed39 s.vm) (hown : s.vm.findClass own = some m.cls) {index : Nat} {y : MethodName} {ret : Option FieldType} {bytes : ByteArray} {maxL : Nat} {rm : Room} {as' : Array Value} {Q' : Option Value → Heap → List Loc → Prop} (w1 : (Cond.methodLink own index y).before a0 Z = true) (w2 : (Cond.static y).before a0 Z = true) (w3 : (Cond.initialized y.cls).before a0 Z = true) (w4 : (Cond.code y bytes maxL ret).before a0 Z = true) (hy : y.cls ≠ "java/lang/invoke/MethodHandle" ∧ y.cls ≠ "java/lang/invoke/VarHandle")
    (hM : Ct l Z y bytes maxL ret [] rm as' h Q') (hsz : Ls.size = c.maxLocals) (eT : T.heap = h) (argsL : List Value) {rest : List Value} (has : as' = argsL.toArray) (hst : st = argsL.reverse ++ rest) {W : Nat} (hW : (rest.map fun v => v.category).sum ≤ W) (hf : rm.frames + 1 ≤ R.frames) (hl : W + (maxL + 11) + rm.locals ≤ R.locals) (hcl : cells + rm.cells ≤ R.cells) (hsl : slots + rm.slots ≤ R.slots) (hlen : ∀ sig, parseMethodDescriptor y.desc = some sig → argsL.length = sig.parameters.length) (hd : decode c.code pc = .ok (.invokestatic index, 3)) (hp : pc + 3 = q) (k : ∀ v T' L, Stand p l e R s m args below meth c T' (locs ++ L) (cells + rm.cells) (slots + rm.slots) → Q' v T'.heap L → Ga p e below s Q C S T' m q Ls (v.toList ++ rest)) : Ga p e below s Q C S T m pc Ls st := by
  subst hp has hst
  obtain ⟨_, _, ⟨T', L', k', n'⟩, -, X', ⟨Lc, hQ', l1, y1, z1⟩, sx⟩ := Jvm.LawKit.callS X hx (y := y) hown (mvT hZ w1) (mvT hZ w2) (mvT hZ w3) (mvT hZ w4) hy (backOf (W := W) hM hZ w4 w3 hf hl) (g := mkF m pc Ls (argsL.reverse ++ rest)) rfl hsz (argsL := argsL) (rest := rest) hlen rfl (by show 2 * 0 + _ ≤ _; omega) hd (fun _ _ => ⟨rfl, eT, hcl, hsl⟩)
  dsimp only [Pt.U, Pt.locs, Pt.cells, Pt.slots] at X' l1 y1 z1 sx hQ'
  subst l1 y1 z1
  exact Ga.stp sx (k _ T' Lc X' hQ')
variable {ka : ClassId} {ty : FieldType} {z j : Int32} {vs : List Value} {dv : Value} {a : Addr}
theorem g_len (X : Stand p l e R s m args below meth c T locs cells slots) (hx : p.tables.exec = Jvm.exec) (hZ : Z.Warmed39 s.vm) (eT : T.heap = h) (A : Arv Z h a ka ty z vs dv) (hd : decode c.code pc = .ok (.arraylength, 1)) (hp : pc + 1 = q) (g : Ga p e below s Q C S T m q Ls (.int z :: st)) : Ga p e below s Q C S T m pc Ls (.ref a :: st) := by
  subst hp
  obtain ⟨cl, Ar, -, Sz, N, -, -⟩ := A
  refine Ga.stp (fun t k => X.arraylength hx (by rw [eT]; exact Ar.1) (State.isArrayOf_alike hZ.alike Ar.2.1) (g := mkF m pc Ls (.ref a :: st)) rfl rfl hd t ?_) g
  rw [len_of Sz N]; exact k
theorem g_daload (X : Stand p l e R s m args below meth c T locs cells slots) (hx : p.tables.exec = Jvm.exec) (hZ : Z.Warmed39 s.vm) (eT : T.heap = h) (A : Arv Z h a ka .double z vs dv) {v : Value} (hin : ¬ j < 0 ∧ j < z) (hv : vs.getD j.toNatClampNeg dv = v) (hd : decode c.code pc = .ok (.daload, 1)) (hp : pc + 1 = q) (g : Ga p e below s Q C S T m q Ls (v :: st)) : Ga p e below s Q C S T m pc Ls (.int j :: .ref a :: st) := by
  subst hp
  obtain ⟨cl, Ar, -, Sz, N, Hs, -⟩ := A
  exact Ga.stp (fun t k => X.daload hx (j := j) (v := v) (by rw [eT]; exact Ar.1) (State.isArrayOf_alike hZ.alike Ar.2.1) Ar.2.2 (inb_of Sz hin) (Hs.at (inb_of Sz hin) hv) (g := mkF m pc Ls (.int j :: .ref a :: st)) rfl rfl hd t k) g
theorem g_dastore (X : Stand p l e R s m args below meth c T locs cells slots) (hx : p.tables.exec = Jvm.exec) (hZ : Z.Warmed39 s.vm) (eT : T.heap = h) (A : Arv Z h a ka .double z vs dv) {x : UInt64} (hin : ¬ j < 0 ∧ j < z) (hlen : j.toNatClampNeg < vs.length) (hd : decode c.code pc = .ok (.dastore, 1)) (hp : pc + 1 = q)
    (k : ∀ T' h', Stand p l e R s m args below meth c T' (locs ++ [⟨a, j.toNatClampNeg⟩]) cells slots → T'.heap = h' → Wr h h' a j.toNatClampNeg (.double x) → Arv Z h' a ka .double z (vs.set j.toNatClampNeg (.double x)) dv → Ga p e below s Q C S T' m q Ls st) : Ga p e below s Q C S T m pc Ls (.double x :: .int j :: .ref a :: st) := by
  subst hp
  obtain ⟨cl, Ar, q1, Sz, N, Hs, Gs⟩ := A
  obtain ⟨T', h', X', e', W', sx⟩ := stD X hx hZ eT Ar (j := j) (inb_of Sz hin) (g := mkF m pc Ls (.double x :: .int j :: .ref a :: st)) rfl rfl hd
  exact Ga.stp sx (k T' h' X' e' W' (Arv.set Ar q1 Sz N Hs Gs rfl W' _ rfl hlen))
theorem g_newarray (X : Stand p l e R s m args below meth c T locs cells slots) (hx : p.tables.exec = Jvm.exec) (hZ : Z.Warmed39 s.vm) {aty : ArrayType} (w : (Cond.arrayClass (newarray.typeOf aty)).before a0 Z = true) (eT : T.heap = h) {n : Int32} (hn : ¬ n < 0) (cap : Nat) (hcap : n.toNatClampNeg ≤ cap) (hb : cap * 8 ≤ 536870912) (hc : cells + 1 ≤ R.cells) (hl : slots + cap ≤ R.slots) {ad : String} (had : "[" ++ (newarray.typeOf aty).toString = ad) (hd : decode c.code pc = .ok (.newarray aty, 2)) (hp : pc + 2 = q)
    (k : ∀ T' h' b kA, Stand p l e R s m args below meth c T' locs (cells + 1) (slots + cap) → T'.heap = h' → b = h.size → Ext h h' → Exa Z h' b ad → Arv Z h' b kA (newarray.typeOf aty) n (List.replicate cap (defaultValue (newarray.typeOf aty))) (defaultValue (newarray.typeOf aty)) → Ga p e below s Q C S T' m q Ls (.ref b :: st)) : Ga p e below s Q C S T m pc Ls (.int n :: st) := by
  subst hp
  obtain ⟨T', h', cA, X', e', E', A', Ea, sx⟩ := newPE X hx hZ w eT (g := mkF m pc Ls (.int n :: st)) rfl hd rfl hn hcap hb hc hl had
  exact Ga.stp sx (k T' h' _ cA X' e' rfl E' Ea ((Arv.new A' hn).pad (by simpa using pad_rep [] (defaultValue (newarray.typeOf aty)) cap)))
theorem own_ne {b : Addr} (h1 : a < h.size) (h2 : b = h.size) : a ≠ b := Nat.ne_of_lt (h2 ▸ h1)
end GoKit

theorem own_irrI (x : Int32) : ¬ x < x := Int32.lt_irrefl
theorem own_irrJ (x : Int64) : ¬ x < x := Int64.lt_irrefl
theorem own_narc (x : Int32) : nar .char (x &&& (255 : Int32)) = (x &&& (255 : Int32)) := i2c_mask x
theorem own_nar (x : Int32) : nar .byte x = x.toInt8.toInt32 := rfl
theorem own_bb (x : Int32) : x.toInt8.toInt32.toInt8.toInt32 = x.toInt8.toInt32 := by simp
theorem own_nb {h : Heap} {b b' y : Addr} (hb : b' = b ∨ h.size ≤ b') (lt : y < h.size) (ne : y ≠ b) : y ≠ b' := hb.elim (fun q => q ▸ ne) (fun q => Nat.ne_of_lt (Nat.lt_of_lt_of_le lt q))
theorem own_ng {h : Heap} {b b' : Addr} {n0 : Nat} (hb : b' = b ∨ h.size ≤ b') (g : n0 ≤ b) (Z : n0 ≤ h.size) : n0 ≤ b' := hb.elim (fun q => q ▸ g) (fun q => Nat.le_trans Z q)
theorem own_insK {Z : State} {h h' : Heap} {a : Addr} {C : String} {ws : List Addr} (F : Ins Z h a C true) (K : Keep h h' ws) : Ins Z h' a C true := by
  obtain ⟨cell, cT, h1, h2, h3⟩ := F
  obtain ⟨c', q1, q2, q3, -⟩ := K.2.2 _ _ h1
  exact ⟨c', cT, q1, h2, by rw [q2, q3]; exact h3⟩
theorem d_prog_11_m_16_0 : decode prog_11_method_16_code 0 = .ok (.iconst 0, 1) := by decide +kernel
theorem d_prog_11_m_16_1 : decode prog_11_method_16_code 1 = .ok (.istore 4, 2) := by decide +kernel
theorem d_prog_11_m_16_3 : decode prog_11_method_16_code 3 = .ok (.iload 4, 2) := by decide +kernel
theorem d_prog_11_m_16_5 : decode prog_11_method_16_code 5 = .ok (.aload_n 0, 1) := by decide +kernel
theorem d_prog_11_m_16_6 : decode prog_11_method_16_code 6 = .ok (.arraylength, 1) := by decide +kernel
theorem d_prog_11_m_16_7 : decode prog_11_method_16_code 7 = .ok (.if_icmp .ge 22, 3) := by decide +kernel
theorem d_prog_11_m_16_29 : decode prog_11_method_16_code 29 = .ok (.return_, 1) := by decide +kernel
theorem d_prog_11_m_16_10 : decode prog_11_method_16_code 10 = .ok (.aload_n 0, 1) := by decide +kernel
theorem d_prog_11_m_16_11 : decode prog_11_method_16_code 11 = .ok (.iload 4, 2) := by decide +kernel
theorem d_prog_11_m_16_13 : decode prog_11_method_16_code 13 = .ok (.dup2, 1) := by decide +kernel
theorem d_prog_11_m_16_14 : decode prog_11_method_16_code 14 = .ok (.daload, 1) := by decide +kernel
theorem d_prog_11_m_16_15 : decode prog_11_method_16_code 15 = .ok (.dload_n 1, 1) := by decide +kernel
theorem d_prog_11_m_16_16 : decode prog_11_method_16_code 16 = .ok (.aload_n 3, 1) := by decide +kernel
theorem d_prog_11_m_16_17 : decode prog_11_method_16_code 17 = .ok (.iload 4, 2) := by decide +kernel
theorem d_prog_11_m_16_19 : decode prog_11_method_16_code 19 = .ok (.daload, 1) := by decide +kernel
theorem d_prog_11_m_16_20 : decode prog_11_method_16_code 20 = .ok (.dmul, 1) := by decide +kernel
theorem d_prog_11_m_16_21 : decode prog_11_method_16_code 21 = .ok (.dadd, 1) := by decide +kernel
theorem d_prog_11_m_16_22 : decode prog_11_method_16_code 22 = .ok (.dastore, 1) := by decide +kernel
theorem d_prog_11_m_16_23 : decode prog_11_method_16_code 23 = .ok (.iinc 4 1, 3) := by decide +kernel
theorem d_prog_11_m_16_26 : decode prog_11_method_16_code 26 = .ok (.goto (-23), 3) := by decide +kernel
theorem pd_0 : parseMethodDescriptor "([DD[D)V" = some ⟨[(.array .double), .double, (.array .double)], none⟩ := by decide +kernel
theorem pn_0 : plainName "com/example/dunlin/dunlin/Lbfgs" = true := by first | (simp [plainName, overriddenIn]; done) | decide +kernel
theorem pn_1 : plainName "com/example/dunlin/dunlin/LbfgsAddScaledPinLaw" = true := by first | (simp [plainName, overriddenIn]; done) | decide +kernel
theorem own_lt32 {x y : Int32} : x < y ↔ x.toInt < y.toInt := Int32.lt_iff_toInt_lt
theorem own_eq32 {x y : Int32} : x = y ↔ x.toInt = y.toInt := Int32.toInt_inj.symm
theorem own_i0 : (0 : Int32).toInt = 0 := rfl
theorem own_i1 : (1 : Int32).toInt = 1 := rfl
theorem own_nat {j z : Int32} (h0 : ¬ j < 0) (h : j < z) : j.toNatClampNeg < z.toNatClampNeg := by
  have a := nat_of h0
  have hz : ¬ z < 0 := by rw [own_lt32] at *; rw [own_i0] at *; omega
  have b := nat_of hz
  rw [own_lt32] at h; omega
theorem own_mx {x v : Int32} (h : (x &&& (2147483647 : Int32)) = v) : ¬ v < (0 : Int32) := by
  have e := c_mask x 2147483647 31 (by decide) (by decide)
  rw [h] at e; rw [own_lt32, own_i0]; omega
theorem own_mx1 {x v : Int32} (h : (x &&& (2147483647 : Int32)) = v) (h0 : ¬ v = 0) : ¬ v < (1 : Int32) := by
  have e := c_mask x 2147483647 31 (by decide) (by decide)
  rw [h] at e; rw [own_eq32, own_i0] at h0; rw [own_lt32, own_i1]; omega
theorem own_rem3 {x v : Int32} (h0 : ¬ x < (0 : Int32)) (h : (x % (3 : Int32)) = v) : v = (0 : Int32) ∨ v = (1 : Int32) ∨ v = (2 : Int32) := by
  have e := (c_irem x 3 3 rfl).1 (by rw [own_lt32, own_i0] at h0; omega)
  rw [h] at e
  have : v.toInt = 0 ∨ v.toInt = 1 ∨ v.toInt = 2 := by omega
  rcases this with q | q | q
  · left; exact Int32.toInt_inj.mp q
  · right; left; exact Int32.toInt_inj.mp q
  · right; right; exact Int32.toInt_inj.mp q
theorem own_ushr0 (x q : Int32) (k : Nat) (hk : q.toBitVec.toNat % 32 = k) (hk0 : 0 < k) : ¬ ((x.toUInt32 >>> (q &&& 31).toUInt32).toInt32) < (0 : Int32) := by
  have e := c_iushr x q k hk hk0
  rw [own_lt32, e, own_i0]
  have : 0 ≤ (x.toInt % 4294967296) / ((2 ^ k : Nat) : Int) := Int.ediv_nonneg (Int.emod_nonneg _ (by decide)) (Int.natCast_nonneg _)
  omega
theorem own_m3 {x v : Int32} (h : (x &&& (3 : Int32)) = v) : v = (0 : Int32) ∨ v = (1 : Int32) ∨ v = (2 : Int32) ∨ v = (3 : Int32) := by
  have e := c_mask x 3 2 (by decide) (by decide)
  rw [h] at e
  have : v.toInt = 0 ∨ v.toInt = 1 ∨ v.toInt = 2 ∨ v.toInt = 3 := by omega
  rcases this with q | q | q | q
  · left; exact Int32.toInt_inj.mp q
  · right; left; exact Int32.toInt_inj.mp q
  · right; right; left; exact Int32.toInt_inj.mp q
  · right; right; right; exact Int32.toInt_inj.mp q
theorem own_nn {i : Int} {a : UInt64} (h : FP.Core.DInt i a) : Jvm.Free.Fl.NoNaN64 a := by
  refine (Jvm.Free.Fl.fin64_core.mpr ?_).noNaN
  unfold FP.Core.DInt at h
  cases e : FP.Core.val64 a with
  | fin s c q => exact ⟨s, c, q, e⟩
  | nan => rw [e] at h; exact h.elim
  | inf s => rw [e] at h; exact h.elim
theorem own_deq {i : Int} {a b : UInt64} (ha : FP.Core.DInt i a) (hb : FP.Core.DInt i b) (o : CmpOp) : cmpValue (FP.dcmp a b) o = 0 := by
  rw [show FP.dcmp a b = some (compare i i) from FP.Core.dcmp_int ha hb, FP.Core.compare_self_int]
  cases o <;> rfl
theorem own_sr {x : Int32} {v : Int64} (h : (x.toInt16.toInt32.toInt64) = v) : -32768 ≤ v.toInt ∧ v.toInt < 32768 := by
  have c := c_i2s x
  rw [← h, c_i2l]; omega
theorem own_pq {p a A B : Int} (h1 : p.natAbs ≤ 2147483648) (h2 : a.natAbs ≤ 32768) : (p * a).natAbs ≤ 70368744177664 := by
  rw [Int.natAbs_mul]
  exact Nat.mul_le_mul h1 h2
theorem own_exp {p : Int32} {t a f : Int64} (hf : p.toInt64 = f) (ht : -32768 ≤ t.toInt ∧ t.toInt < 32768) (ha : -32768 ≤ a.toInt ∧ a.toInt < 32768) :
    Jvm.Free.Fl.NoNaN64 (FP.dmul (FP.i2d p) (FP.l2d a)) ∧ Jvm.Free.Fl.NoNaN64 (FP.dadd (FP.l2d t) (FP.dmul (FP.i2d p) (FP.l2d a))) ∧ cmpValue (FP.dcmp (FP.dadd (FP.l2d t) (FP.dmul (FP.i2d p) (FP.l2d a))) (FP.l2d (t + (f * a)))) .l = 0 := by
  have rp := rng32 p
  have e53 : (2 ^ 53 : Nat) = 9007199254740992 := by decide
  have hq := own_pq (A := 0) (B := 0) (p := p.toInt) (a := a.toInt) (by omega) (by omega)
  have m := FP.Core.dmul_int (FP.Core.i2d_int p) (FP.Core.l2d_int (a := a) (by omega)) (by omega)
  have s := FP.Core.dadd_int (FP.Core.l2d_int (a := t) (by omega)) m (by omega)
  have cm := c_lmul f a
  have cs := c_ladd t (f * a)
  have rm := rng64 (f * a)
  have rs := rng64 (t + f * a)
  rw [← hf] at cm cs rm rs ⊢
  rw [c_i2l] at cm
  generalize hg : p.toInt * a.toInt = g at *
  have e1 : (p.toInt64 * a).toInt = g := by omega
  have e2 : (t + p.toInt64 * a).toInt = t.toInt + g := by omega
  have r := FP.Core.l2d_int (a := t + p.toInt64 * a) (by omega)
  rw [e2] at r
  exact ⟨own_nn m, own_nn s, own_deq s r _⟩

def Q_add0 (Z : State) (t : Addr) (kt : ClassId) (w : Addr) (kw : ClassId) (f : UInt64) (y0 : UInt64) (y1 : UInt64) (y2 : UInt64) (h0 : Heap) (n0 : Nat) (v : Option Value) (h : Heap) (L : List Loc) : Prop := v = none ∧ Fr n0 L ∧ Keep h0 h [t] ∧ Arv Z h t kt .double (0 : Int32) [] (.double (0 : UInt64))
theorem ef_add0 (m : MethodId) (x0 : Addr) (x1 : UInt64) (x2 : Addr) : entryFrame m #[(.ref x0), (.double x1), (.ref x2)] 5 = mkF m 0 #[.val (.ref x0), .val (.double x1), .second, .val (.ref x2), .unset] [] := by first | (simp [entryFrame, mkF, argsToLocals, Value.category]; done) | rfl
set_option maxRecDepth 65536 in
set_option maxHeartbeats 40000000 in
theorem rm_add0 (l : Launch) (Z : State) (a0 : Array Value) (hw : ∀ d ∈ tables_1, d.before a0 Z = true) (t : Addr) (kt : ClassId) (w : Addr) (kw : ClassId) (f : UInt64) (y0 : UInt64) (y1 : UInt64) (y2 : UInt64) (h0 : Heap) (n0 : Nat) (Z0 : n0 ≤ h0.size) (V_t : Arv Z h0 t kt .double (0 : Int32) [] (.double (0 : UInt64))) (V_w : Arv Z h0 w kw .double (3 : Int32) [(.double y0), (.double y1), (.double y2)] (.double (0 : UInt64))) (g_t : n0 ≤ t) (ne_t_w : t ≠ w) :
    Ct l Z (⟨"com/example/dunlin/dunlin/Lbfgs", "addScaled", "([DD[D)V"⟩ : MethodName) prog_11_method_16_code 5 none [] ({ frames := 0, cells := 0, slots := 0, locals := 0 } : Room) #[(.ref t), (.double f), (.ref w)] h0 (Q_add0 Z t kt w kw f y0 y1 y2 h0 n0) := by
  refine own_body (plainFor_of_name pn_0) (fun m => ef_add0 m t f w) ?_
  intro p e s m below meth c T0 hx hby hml hZ hown hnm hret hlk X0 e0
  have N0 := Fr.nil n0
  refine g_iconst X0 hx (r := (0 : Int32)) (hb hby d_prog_11_m_16_0) rfl rfl ?_
  refine g_istore X0 hx (Ls' := #[.val (.ref t), .val (.double f), .second, .val (.ref w), .val (.int (0 : Int32))]) (hb hby d_prog_11_m_16_1) rfl rfl ?_
  refine g_iload X0 hx (hb hby d_prog_11_m_16_3) rfl rfl ?_
  refine g_aloadN X0 hx (hb hby d_prog_11_m_16_5) rfl rfl rfl ?_
  refine g_len X0 hx hZ e0 V_t (hb hby d_prog_11_m_16_6) rfl ?_
  refine g_icmpY X0 hx (q := 29) (hb hby d_prog_11_m_16_7) (XT.ii_ge_t (by decide : ¬ (0 : Int32) < (0 : Int32))) (by decide) (by decide) ?_
  exact g_ret X0 hx hret hlk (hb hby d_prog_11_m_16_29) (by decide) (by decide) (by rw [e0]; exact ⟨rfl, N0, (Keep.refl h0 [t]), V_t⟩)
def Q_add1 (Z : State) (t : Addr) (kt : ClassId) (w : Addr) (kw : ClassId) (f : UInt64) (x0 : UInt64) (y0 : UInt64) (y1 : UInt64) (y2 : UInt64) (h0 : Heap) (n0 : Nat) (v : Option Value) (h : Heap) (L : List Loc) : Prop := v = none ∧ Fr n0 L ∧ Keep h0 h [t] ∧ Arv Z h t kt .double (1 : Int32) [(.double (FP.dadd x0 (FP.dmul f y0)))] (.double (0 : UInt64))
theorem ef_add1 (m : MethodId) (x0 : Addr) (x1 : UInt64) (x2 : Addr) : entryFrame m #[(.ref x0), (.double x1), (.ref x2)] 5 = mkF m 0 #[.val (.ref x0), .val (.double x1), .second, .val (.ref x2), .unset] [] := by first | (simp [entryFrame, mkF, argsToLocals, Value.category]; done) | rfl
set_option maxRecDepth 65536 in
set_option maxHeartbeats 40000000 in
theorem rm_add1 (l : Launch) (Z : State) (a0 : Array Value) (hw : ∀ d ∈ tables_1, d.before a0 Z = true) (t : Addr) (kt : ClassId) (w : Addr) (kw : ClassId) (f : UInt64) (x0 : UInt64) (y0 : UInt64) (y1 : UInt64) (y2 : UInt64) (h0 : Heap) (n0 : Nat) (Z0 : n0 ≤ h0.size) (V_t : Arv Z h0 t kt .double (1 : Int32) [(.double x0)] (.double (0 : UInt64))) (V_w : Arv Z h0 w kw .double (3 : Int32) [(.double y0), (.double y1), (.double y2)] (.double (0 : UInt64))) (g_t : n0 ≤ t) (ne_t_w : t ≠ w) (hm0 : Jvm.Free.Fl.NoNaN64 (FP.dmul f y0)) (ha0 : Jvm.Free.Fl.NoNaN64 (FP.dadd x0 (FP.dmul f y0))) :
    Ct l Z (⟨"com/example/dunlin/dunlin/Lbfgs", "addScaled", "([DD[D)V"⟩ : MethodName) prog_11_method_16_code 5 none [] ({ frames := 0, cells := 0, slots := 0, locals := 0 } : Room) #[(.ref t), (.double f), (.ref w)] h0 (Q_add1 Z t kt w kw f x0 y0 y1 y2 h0 n0) := by
  refine own_body (plainFor_of_name pn_0) (fun m => ef_add1 m t f w) ?_
  intro p e s m below meth c T0 hx hby hml hZ hown hnm hret hlk X0 e0
  have N0 := Fr.nil n0
  refine g_iconst X0 hx (r := (0 : Int32)) (hb hby d_prog_11_m_16_0) rfl rfl ?_
  refine g_istore X0 hx (Ls' := #[.val (.ref t), .val (.double f), .second, .val (.ref w), .val (.int (0 : Int32))]) (hb hby d_prog_11_m_16_1) rfl rfl ?_
  refine g_iload X0 hx (hb hby d_prog_11_m_16_3) rfl rfl ?_
  refine g_aloadN X0 hx (hb hby d_prog_11_m_16_5) rfl rfl rfl ?_
  refine g_len X0 hx hZ e0 V_t (hb hby d_prog_11_m_16_6) rfl ?_
  refine g_icmpN X0 hx (hb hby d_prog_11_m_16_7) rfl (XT.ii_ge_f (by decide : (0 : Int32) < (1 : Int32))) ?_
  refine g_aloadN X0 hx (hb hby d_prog_11_m_16_10) rfl rfl rfl ?_
  refine g_iload X0 hx (hb hby d_prog_11_m_16_11) rfl rfl ?_
  refine g_dup2 X0 hx (hb hby d_prog_11_m_16_13) rfl rfl rfl ?_
  refine g_daload X0 hx hZ e0 V_t (v := (.double x0)) ⟨by decide, by decide⟩ rfl (hb hby d_prog_11_m_16_14) rfl ?_
  refine g_dloadN X0 hx (hb hby d_prog_11_m_16_15) rfl rfl ?_
  refine g_aloadN X0 hx (hb hby d_prog_11_m_16_16) rfl rfl rfl ?_
  refine g_iload X0 hx (hb hby d_prog_11_m_16_17) rfl rfl ?_
  refine g_daload X0 hx hZ e0 V_w (v := (.double y0)) ⟨by decide, by decide⟩ rfl (hb hby d_prog_11_m_16_19) rfl ?_
  refine g_dmul X0 hx (hb hby d_prog_11_m_16_20) rfl hm0 ?_
  refine g_dadd X0 hx (hb hby d_prog_11_m_16_21) rfl ha0 ?_
  refine g_dastore X0 hx hZ e0 V_t ⟨by decide, by decide⟩ (Nat.le_of_ble_eq_true rfl) (hb hby d_prog_11_m_16_22) rfl fun T1 h1 X1 e1 W1 V1 => ?_
  have Vn1 : Arv Z h1 t kt .double (1 : Int32) [(.double (FP.dadd x0 (FP.dmul f y0)))] (.double (0 : UInt64)) := V1
  have kk1 : Keep h0 h1 [t] := (Keep.refl h0 [t]).wr W1 (Or.inl (by simp))
  have N1 := Fr.snoc X1 N0 g_t
  have Z1 : n0 ≤ h1.size := by rw [W1.size]; exact Z0
  refine g_iinc X1 hx (r := (1 : Int32)) (Ls' := #[.val (.ref t), .val (.double f), .second, .val (.ref w), .val (.int (1 : Int32))]) (hb hby d_prog_11_m_16_23) rfl rfl rfl rfl ?_
  refine g_goto X1 hx (q := 3) (hb hby d_prog_11_m_16_26) (by decide) (by decide) ?_
  refine g_iload X1 hx (hb hby d_prog_11_m_16_3) rfl rfl ?_
  refine g_aloadN X1 hx (hb hby d_prog_11_m_16_5) rfl rfl rfl ?_
  refine g_len X1 hx hZ e1 Vn1 (hb hby d_prog_11_m_16_6) rfl ?_
  refine g_icmpY X1 hx (q := 29) (hb hby d_prog_11_m_16_7) (XT.ii_ge_t (by decide : ¬ (1 : Int32) < (1 : Int32))) (by decide) (by decide) ?_
  exact g_ret X1 hx hret hlk (hb hby d_prog_11_m_16_29) (by decide) (by decide) (by rw [e1]; exact ⟨rfl, N1, kk1, Vn1⟩)
def Q_add2 (Z : State) (t : Addr) (kt : ClassId) (w : Addr) (kw : ClassId) (f : UInt64) (x0 : UInt64) (x1 : UInt64) (y0 : UInt64) (y1 : UInt64) (y2 : UInt64) (h0 : Heap) (n0 : Nat) (v : Option Value) (h : Heap) (L : List Loc) : Prop := v = none ∧ Fr n0 L ∧ Keep h0 h [t] ∧ Arv Z h t kt .double (2 : Int32) [(.double (FP.dadd x0 (FP.dmul f y0))), (.double (FP.dadd x1 (FP.dmul f y1)))] (.double (0 : UInt64))
theorem ef_add2 (m : MethodId) (x0 : Addr) (x1 : UInt64) (x2 : Addr) : entryFrame m #[(.ref x0), (.double x1), (.ref x2)] 5 = mkF m 0 #[.val (.ref x0), .val (.double x1), .second, .val (.ref x2), .unset] [] := by first | (simp [entryFrame, mkF, argsToLocals, Value.category]; done) | rfl
set_option maxRecDepth 65536 in
set_option maxHeartbeats 40000000 in
theorem rm_add2 (l : Launch) (Z : State) (a0 : Array Value) (hw : ∀ d ∈ tables_1, d.before a0 Z = true) (t : Addr) (kt : ClassId) (w : Addr) (kw : ClassId) (f : UInt64) (x0 : UInt64) (x1 : UInt64) (y0 : UInt64) (y1 : UInt64) (y2 : UInt64) (h0 : Heap) (n0 : Nat) (Z0 : n0 ≤ h0.size) (V_t : Arv Z h0 t kt .double (2 : Int32) [(.double x0), (.double x1)] (.double (0 : UInt64))) (V_w : Arv Z h0 w kw .double (3 : Int32) [(.double y0), (.double y1), (.double y2)] (.double (0 : UInt64))) (g_t : n0 ≤ t) (ne_t_w : t ≠ w) (hm0 : Jvm.Free.Fl.NoNaN64 (FP.dmul f y0)) (ha0 : Jvm.Free.Fl.NoNaN64 (FP.dadd x0 (FP.dmul f y0))) (hm1 : Jvm.Free.Fl.NoNaN64 (FP.dmul f y1)) (ha1 : Jvm.Free.Fl.NoNaN64 (FP.dadd x1 (FP.dmul f y1))) :
    Ct l Z (⟨"com/example/dunlin/dunlin/Lbfgs", "addScaled", "([DD[D)V"⟩ : MethodName) prog_11_method_16_code 5 none [] ({ frames := 0, cells := 0, slots := 0, locals := 0 } : Room) #[(.ref t), (.double f), (.ref w)] h0 (Q_add2 Z t kt w kw f x0 x1 y0 y1 y2 h0 n0) := by
  refine own_body (plainFor_of_name pn_0) (fun m => ef_add2 m t f w) ?_
  intro p e s m below meth c T0 hx hby hml hZ hown hnm hret hlk X0 e0
  have N0 := Fr.nil n0
  refine g_iconst X0 hx (r := (0 : Int32)) (hb hby d_prog_11_m_16_0) rfl rfl ?_
  refine g_istore X0 hx (Ls' := #[.val (.ref t), .val (.double f), .second, .val (.ref w), .val (.int (0 : Int32))]) (hb hby d_prog_11_m_16_1) rfl rfl ?_
  refine g_iload X0 hx (hb hby d_prog_11_m_16_3) rfl rfl ?_
  refine g_aloadN X0 hx (hb hby d_prog_11_m_16_5) rfl rfl rfl ?_
  refine g_len X0 hx hZ e0 V_t (hb hby d_prog_11_m_16_6) rfl ?_
  refine g_icmpN X0 hx (hb hby d_prog_11_m_16_7) rfl (XT.ii_ge_f (by decide : (0 : Int32) < (2 : Int32))) ?_
  refine g_aloadN X0 hx (hb hby d_prog_11_m_16_10) rfl rfl rfl ?_
  refine g_iload X0 hx (hb hby d_prog_11_m_16_11) rfl rfl ?_
  refine g_dup2 X0 hx (hb hby d_prog_11_m_16_13) rfl rfl rfl ?_
  refine g_daload X0 hx hZ e0 V_t (v := (.double x0)) ⟨by decide, by decide⟩ rfl (hb hby d_prog_11_m_16_14) rfl ?_
  refine g_dloadN X0 hx (hb hby d_prog_11_m_16_15) rfl rfl ?_
  refine g_aloadN X0 hx (hb hby d_prog_11_m_16_16) rfl rfl rfl ?_
  refine g_iload X0 hx (hb hby d_prog_11_m_16_17) rfl rfl ?_
  refine g_daload X0 hx hZ e0 V_w (v := (.double y0)) ⟨by decide, by decide⟩ rfl (hb hby d_prog_11_m_16_19) rfl ?_
  refine g_dmul X0 hx (hb hby d_prog_11_m_16_20) rfl hm0 ?_
  refine g_dadd X0 hx (hb hby d_prog_11_m_16_21) rfl ha0 ?_
  refine g_dastore X0 hx hZ e0 V_t ⟨by decide, by decide⟩ (Nat.le_of_ble_eq_true rfl) (hb hby d_prog_11_m_16_22) rfl fun T1 h1 X1 e1 W1 V1 => ?_
  have Vn1 : Arv Z h1 t kt .double (2 : Int32) [(.double (FP.dadd x0 (FP.dmul f y0))), (.double x1)] (.double (0 : UInt64)) := V1
  have kk1 : Keep h0 h1 [t] := (Keep.refl h0 [t]).wr W1 (Or.inl (by simp))
  have N1 := Fr.snoc X1 N0 g_t
  have Z1 : n0 ≤ h1.size := by rw [W1.size]; exact Z0
  refine g_iinc X1 hx (r := (1 : Int32)) (Ls' := #[.val (.ref t), .val (.double f), .second, .val (.ref w), .val (.int (1 : Int32))]) (hb hby d_prog_11_m_16_23) rfl rfl rfl rfl ?_
  refine g_goto X1 hx (q := 3) (hb hby d_prog_11_m_16_26) (by decide) (by decide) ?_
  refine g_iload X1 hx (hb hby d_prog_11_m_16_3) rfl rfl ?_
  refine g_aloadN X1 hx (hb hby d_prog_11_m_16_5) rfl rfl rfl ?_
  refine g_len X1 hx hZ e1 Vn1 (hb hby d_prog_11_m_16_6) rfl ?_
  refine g_icmpN X1 hx (hb hby d_prog_11_m_16_7) rfl (XT.ii_ge_f (by decide : (1 : Int32) < (2 : Int32))) ?_
  refine g_aloadN X1 hx (hb hby d_prog_11_m_16_10) rfl rfl rfl ?_
  refine g_iload X1 hx (hb hby d_prog_11_m_16_11) rfl rfl ?_
  refine g_dup2 X1 hx (hb hby d_prog_11_m_16_13) rfl rfl rfl ?_
  refine g_daload X1 hx hZ e1 Vn1 (v := (.double x1)) ⟨by decide, by decide⟩ rfl (hb hby d_prog_11_m_16_14) rfl ?_
  refine g_dloadN X1 hx (hb hby d_prog_11_m_16_15) rfl rfl ?_
  refine g_aloadN X1 hx (hb hby d_prog_11_m_16_16) rfl rfl rfl ?_
  refine g_iload X1 hx (hb hby d_prog_11_m_16_17) rfl rfl ?_
  have f2 : Arv Z h1 w kw .double (3 : Int32) [(.double y0), (.double y1), (.double y2)] (.double (0 : UInt64)) := (V_w.other W1 (Ne.symm ne_t_w))
  refine g_daload X1 hx hZ e1 f2 (v := (.double y1)) ⟨by decide, by decide⟩ rfl (hb hby d_prog_11_m_16_19) rfl ?_
  refine g_dmul X1 hx (hb hby d_prog_11_m_16_20) rfl hm1 ?_
  refine g_dadd X1 hx (hb hby d_prog_11_m_16_21) rfl ha1 ?_
  refine g_dastore X1 hx hZ e1 Vn1 ⟨by decide, by decide⟩ (Nat.le_of_ble_eq_true rfl) (hb hby d_prog_11_m_16_22) rfl fun T3 h3 X3 e3 W3 V3 => ?_
  have Vn3 : Arv Z h3 t kt .double (2 : Int32) [(.double (FP.dadd x0 (FP.dmul f y0))), (.double (FP.dadd x1 (FP.dmul f y1)))] (.double (0 : UInt64)) := V3
  have kk3 : Keep h0 h3 [t] := kk1.wr W3 (Or.inl (by simp))
  have N3 := Fr.snoc X3 N1 g_t
  have Z3 : n0 ≤ h3.size := by rw [W3.size]; exact Z1
  refine g_iinc X3 hx (r := (2 : Int32)) (Ls' := #[.val (.ref t), .val (.double f), .second, .val (.ref w), .val (.int (2 : Int32))]) (hb hby d_prog_11_m_16_23) rfl rfl rfl rfl ?_
  refine g_goto X3 hx (q := 3) (hb hby d_prog_11_m_16_26) (by decide) (by decide) ?_
  refine g_iload X3 hx (hb hby d_prog_11_m_16_3) rfl rfl ?_
  refine g_aloadN X3 hx (hb hby d_prog_11_m_16_5) rfl rfl rfl ?_
  refine g_len X3 hx hZ e3 Vn3 (hb hby d_prog_11_m_16_6) rfl ?_
  refine g_icmpY X3 hx (q := 29) (hb hby d_prog_11_m_16_7) (XT.ii_ge_t (by decide : ¬ (2 : Int32) < (2 : Int32))) (by decide) (by decide) ?_
  exact g_ret X3 hx hret hlk (hb hby d_prog_11_m_16_29) (by decide) (by decide) (by rw [e3]; exact ⟨rfl, N3, kk3, Vn3⟩)
def Q_add3 (Z : State) (t : Addr) (kt : ClassId) (w : Addr) (kw : ClassId) (f : UInt64) (x0 : UInt64) (x1 : UInt64) (x2 : UInt64) (y0 : UInt64) (y1 : UInt64) (y2 : UInt64) (h0 : Heap) (n0 : Nat) (v : Option Value) (h : Heap) (L : List Loc) : Prop := v = none ∧ Fr n0 L ∧ Keep h0 h [t] ∧ Arv Z h t kt .double (3 : Int32) [(.double (FP.dadd x0 (FP.dmul f y0))), (.double (FP.dadd x1 (FP.dmul f y1))), (.double (FP.dadd x2 (FP.dmul f y2)))] (.double (0 : UInt64))
theorem ef_add3 (m : MethodId) (x0 : Addr) (x1 : UInt64) (x2 : Addr) : entryFrame m #[(.ref x0), (.double x1), (.ref x2)] 5 = mkF m 0 #[.val (.ref x0), .val (.double x1), .second, .val (.ref x2), .unset] [] := by first | (simp [entryFrame, mkF, argsToLocals, Value.category]; done) | rfl
set_option maxRecDepth 65536 in
set_option maxHeartbeats 40000000 in
theorem rm_add3 (l : Launch) (Z : State) (a0 : Array Value) (hw : ∀ d ∈ tables_1, d.before a0 Z = true) (t : Addr) (kt : ClassId) (w : Addr) (kw : ClassId) (f : UInt64) (x0 : UInt64) (x1 : UInt64) (x2 : UInt64) (y0 : UInt64) (y1 : UInt64) (y2 : UInt64) (h0 : Heap) (n0 : Nat) (Z0 : n0 ≤ h0.size) (V_t : Arv Z h0 t kt .double (3 : Int32) [(.double x0), (.double x1), (.double x2)] (.double (0 : UInt64))) (V_w : Arv Z h0 w kw .double (3 : Int32) [(.double y0), (.double y1), (.double y2)] (.double (0 : UInt64))) (g_t : n0 ≤ t) (ne_t_w : t ≠ w) (hm0 : Jvm.Free.Fl.NoNaN64 (FP.dmul f y0)) (ha0 : Jvm.Free.Fl.NoNaN64 (FP.dadd x0 (FP.dmul f y0))) (hm1 : Jvm.Free.Fl.NoNaN64 (FP.dmul f y1)) (ha1 : Jvm.Free.Fl.NoNaN64 (FP.dadd x1 (FP.dmul f y1))) (hm2 : Jvm.Free.Fl.NoNaN64 (FP.dmul f y2)) (ha2 : Jvm.Free.Fl.NoNaN64 (FP.dadd x2 (FP.dmul f y2))) :
    Ct l Z (⟨"com/example/dunlin/dunlin/Lbfgs", "addScaled", "([DD[D)V"⟩ : MethodName) prog_11_method_16_code 5 none [] ({ frames := 0, cells := 0, slots := 0, locals := 0 } : Room) #[(.ref t), (.double f), (.ref w)] h0 (Q_add3 Z t kt w kw f x0 x1 x2 y0 y1 y2 h0 n0) := by
  refine own_body (plainFor_of_name pn_0) (fun m => ef_add3 m t f w) ?_
  intro p e s m below meth c T0 hx hby hml hZ hown hnm hret hlk X0 e0
  have N0 := Fr.nil n0
  refine g_iconst X0 hx (r := (0 : Int32)) (hb hby d_prog_11_m_16_0) rfl rfl ?_
  refine g_istore X0 hx (Ls' := #[.val (.ref t), .val (.double f), .second, .val (.ref w), .val (.int (0 : Int32))]) (hb hby d_prog_11_m_16_1) rfl rfl ?_
  refine g_iload X0 hx (hb hby d_prog_11_m_16_3) rfl rfl ?_
  refine g_aloadN X0 hx (hb hby d_prog_11_m_16_5) rfl rfl rfl ?_
  refine g_len X0 hx hZ e0 V_t (hb hby d_prog_11_m_16_6) rfl ?_
  refine g_icmpN X0 hx (hb hby d_prog_11_m_16_7) rfl (XT.ii_ge_f (by decide : (0 : Int32) < (3 : Int32))) ?_
  refine g_aloadN X0 hx (hb hby d_prog_11_m_16_10) rfl rfl rfl ?_
  refine g_iload X0 hx (hb hby d_prog_11_m_16_11) rfl rfl ?_
  refine g_dup2 X0 hx (hb hby d_prog_11_m_16_13) rfl rfl rfl ?_
  refine g_daload X0 hx hZ e0 V_t (v := (.double x0)) ⟨by decide, by decide⟩ rfl (hb hby d_prog_11_m_16_14) rfl ?_
  refine g_dloadN X0 hx (hb hby d_prog_11_m_16_15) rfl rfl ?_
  refine g_aloadN X0 hx (hb hby d_prog_11_m_16_16) rfl rfl rfl ?_
  refine g_iload X0 hx (hb hby d_prog_11_m_16_17) rfl rfl ?_
  refine g_daload X0 hx hZ e0 V_w (v := (.double y0)) ⟨by decide, by decide⟩ rfl (hb hby d_prog_11_m_16_19) rfl ?_
  refine g_dmul X0 hx (hb hby d_prog_11_m_16_20) rfl hm0 ?_
  refine g_dadd X0 hx (hb hby d_prog_11_m_16_21) rfl ha0 ?_
  refine g_dastore X0 hx hZ e0 V_t ⟨by decide, by decide⟩ (Nat.le_of_ble_eq_true rfl) (hb hby d_prog_11_m_16_22) rfl fun T1 h1 X1 e1 W1 V1 => ?_
  have Vn1 : Arv Z h1 t kt .double (3 : Int32) [(.double (FP.dadd x0 (FP.dmul f y0))), (.double x1), (.double x2)] (.double (0 : UInt64)) := V1
  have kk1 : Keep h0 h1 [t] := (Keep.refl h0 [t]).wr W1 (Or.inl (by simp))
  have N1 := Fr.snoc X1 N0 g_t
  have Z1 : n0 ≤ h1.size := by rw [W1.size]; exact Z0
  refine g_iinc X1 hx (r := (1 : Int32)) (Ls' := #[.val (.ref t), .val (.double f), .second, .val (.ref w), .val (.int (1 : Int32))]) (hb hby d_prog_11_m_16_23) rfl rfl rfl rfl ?_
  refine g_goto X1 hx (q := 3) (hb hby d_prog_11_m_16_26) (by decide) (by decide) ?_
  refine g_iload X1 hx (hb hby d_prog_11_m_16_3) rfl rfl ?_
  refine g_aloadN X1 hx (hb hby d_prog_11_m_16_5) rfl rfl rfl ?_
  refine g_len X1 hx hZ e1 Vn1 (hb hby d_prog_11_m_16_6) rfl ?_
  refine g_icmpN X1 hx (hb hby d_prog_11_m_16_7) rfl (XT.ii_ge_f (by decide : (1 : Int32) < (3 : Int32))) ?_
  refine g_aloadN X1 hx (hb hby d_prog_11_m_16_10) rfl rfl rfl ?_
  refine g_iload X1 hx (hb hby d_prog_11_m_16_11) rfl rfl ?_
  refine g_dup2 X1 hx (hb hby d_prog_11_m_16_13) rfl rfl rfl ?_
  refine g_daload X1 hx hZ e1 Vn1 (v := (.double x1)) ⟨by decide, by decide⟩ rfl (hb hby d_prog_11_m_16_14) rfl ?_
  refine g_dloadN X1 hx (hb hby d_prog_11_m_16_15) rfl rfl ?_
  refine g_aloadN X1 hx (hb hby d_prog_11_m_16_16) rfl rfl rfl ?_
  refine g_iload X1 hx (hb hby d_prog_11_m_16_17) rfl rfl ?_
  have f2 : Arv Z h1 w kw .double (3 : Int32) [(.double y0), (.double y1), (.double y2)] (.double (0 : UInt64)) := (V_w.other W1 (Ne.symm ne_t_w))
  refine g_daload X1 hx hZ e1 f2 (v := (.double y1)) ⟨by decide, by decide⟩ rfl (hb hby d_prog_11_m_16_19) rfl ?_
  refine g_dmul X1 hx (hb hby d_prog_11_m_16_20) rfl hm1 ?_
  refine g_dadd X1 hx (hb hby d_prog_11_m_16_21) rfl ha1 ?_
  refine g_dastore X1 hx hZ e1 Vn1 ⟨by decide, by decide⟩ (Nat.le_of_ble_eq_true rfl) (hb hby d_prog_11_m_16_22) rfl fun T3 h3 X3 e3 W3 V3 => ?_
  have Vn3 : Arv Z h3 t kt .double (3 : Int32) [(.double (FP.dadd x0 (FP.dmul f y0))), (.double (FP.dadd x1 (FP.dmul f y1))), (.double x2)] (.double (0 : UInt64)) := V3
  have kk3 : Keep h0 h3 [t] := kk1.wr W3 (Or.inl (by simp))
  have N3 := Fr.snoc X3 N1 g_t
  have Z3 : n0 ≤ h3.size := by rw [W3.size]; exact Z1
  refine g_iinc X3 hx (r := (2 : Int32)) (Ls' := #[.val (.ref t), .val (.double f), .second, .val (.ref w), .val (.int (2 : Int32))]) (hb hby d_prog_11_m_16_23) rfl rfl rfl rfl ?_
  refine g_goto X3 hx (q := 3) (hb hby d_prog_11_m_16_26) (by decide) (by decide) ?_
  refine g_iload X3 hx (hb hby d_prog_11_m_16_3) rfl rfl ?_
  refine g_aloadN X3 hx (hb hby d_prog_11_m_16_5) rfl rfl rfl ?_
  refine g_len X3 hx hZ e3 Vn3 (hb hby d_prog_11_m_16_6) rfl ?_
  refine g_icmpN X3 hx (hb hby d_prog_11_m_16_7) rfl (XT.ii_ge_f (by decide : (2 : Int32) < (3 : Int32))) ?_
  refine g_aloadN X3 hx (hb hby d_prog_11_m_16_10) rfl rfl rfl ?_
  refine g_iload X3 hx (hb hby d_prog_11_m_16_11) rfl rfl ?_
  refine g_dup2 X3 hx (hb hby d_prog_11_m_16_13) rfl rfl rfl ?_
  refine g_daload X3 hx hZ e3 Vn3 (v := (.double x2)) ⟨by decide, by decide⟩ rfl (hb hby d_prog_11_m_16_14) rfl ?_
  refine g_dloadN X3 hx (hb hby d_prog_11_m_16_15) rfl rfl ?_
  refine g_aloadN X3 hx (hb hby d_prog_11_m_16_16) rfl rfl rfl ?_
  refine g_iload X3 hx (hb hby d_prog_11_m_16_17) rfl rfl ?_
  have f4 : Arv Z h3 w kw .double (3 : Int32) [(.double y0), (.double y1), (.double y2)] (.double (0 : UInt64)) := (f2.other W3 (Ne.symm ne_t_w))
  refine g_daload X3 hx hZ e3 f4 (v := (.double y2)) ⟨by decide, by decide⟩ rfl (hb hby d_prog_11_m_16_19) rfl ?_
  refine g_dmul X3 hx (hb hby d_prog_11_m_16_20) rfl hm2 ?_
  refine g_dadd X3 hx (hb hby d_prog_11_m_16_21) rfl ha2 ?_
  refine g_dastore X3 hx hZ e3 Vn3 ⟨by decide, by decide⟩ (Nat.le_of_ble_eq_true rfl) (hb hby d_prog_11_m_16_22) rfl fun T5 h5 X5 e5 W5 V5 => ?_
  have Vn5 : Arv Z h5 t kt .double (3 : Int32) [(.double (FP.dadd x0 (FP.dmul f y0))), (.double (FP.dadd x1 (FP.dmul f y1))), (.double (FP.dadd x2 (FP.dmul f y2)))] (.double (0 : UInt64)) := V5
  have kk5 : Keep h0 h5 [t] := kk3.wr W5 (Or.inl (by simp))
  have N5 := Fr.snoc X5 N3 g_t
  have Z5 : n0 ≤ h5.size := by rw [W5.size]; exact Z3
  refine g_iinc X5 hx (r := (3 : Int32)) (Ls' := #[.val (.ref t), .val (.double f), .second, .val (.ref w), .val (.int (3 : Int32))]) (hb hby d_prog_11_m_16_23) rfl rfl rfl rfl ?_
  refine g_goto X5 hx (q := 3) (hb hby d_prog_11_m_16_26) (by decide) (by decide) ?_
  refine g_iload X5 hx (hb hby d_prog_11_m_16_3) rfl rfl ?_
  refine g_aloadN X5 hx (hb hby d_prog_11_m_16_5) rfl rfl rfl ?_
  refine g_len X5 hx hZ e5 Vn5 (hb hby d_prog_11_m_16_6) rfl ?_
  refine g_icmpY X5 hx (q := 29) (hb hby d_prog_11_m_16_7) (XT.ii_ge_t (by decide : ¬ (3 : Int32) < (3 : Int32))) (by decide) (by decide) ?_
  exact g_ret X5 hx hret hlk (hb hby d_prog_11_m_16_29) (by decide) (by decide) (by rw [e5]; exact ⟨rfl, N5, kk5, Vn5⟩)
def Q_law (Z : State) (p0 : Int32) (p1 : Int32) (p2 : Int64) (p3 : Int64) (h0 : Heap) (n0 : Nat) (v : Option Value) (h : Heap) (L : List Loc) : Prop := v = some (.int 1) ∧ Fr n0 L
theorem ef_law (m : MethodId) (x0 : Int32) (x1 : Int32) (x2 : Int64) (x3 : Int64) : entryFrame m #[(.int x0), (.int x1), (.long x2), (.long x3)] maxLocals = mkF m 0 #[.val (.int x0), .val (.int x1), .val (.long x2), .second, .val (.long x3), .second, .unset, .unset, .unset, .unset, .unset, .unset, .unset, .unset, .unset, .unset, .unset, .unset, .unset, .unset, .unset, .unset, .unset, .unset] [] := by first | (simp [entryFrame, mkF, argsToLocals, Value.category, maxLocals]; done) | rfl
set_option maxRecDepth 65536 in
set_option maxHeartbeats 40000000 in
theorem rm_law (l : Launch) (Z : State) (a0 : Array Value) (hw : ∀ d ∈ tables_1, d.before a0 Z = true) (ws : List Jvm.Cond) (p0 : Int32) (p1 : Int32) (p2 : Int64) (p3 : Int64) (h0 : Heap) (n0 : Nat) (Z0 : n0 ≤ h0.size) :
    Ct l Z x code maxLocals ret ws room_1 #[(.int p0), (.int p1), (.long p2), (.long p3)] h0 (Q_law Z p0 p1 p2 p3 h0 n0) := by
  refine own_body (plainFor_of_name pn_1) (fun m => ef_law m p0 p1 p2 p3) ?_
  intro p e s m below meth c T0 hx hby hml hZ hown hnm hret hlk X0 e0
  have N0 := Fr.nil n0
  refine g_iloadN X0 hx (hb hby at_0) rfl rfl ?_
  refine g_iconst X0 hx (r := (3 : Int32)) (hb hby at_1) rfl rfl ?_
  obtain ⟨v2, hv2⟩ : ∃ r, (p0 &&& (3 : Int32)) = r := ⟨_, rfl⟩
  refine g_iand X0 hx (hb hby at_2) rfl hv2 ?_
  refine g_istore X0 hx (Ls' := #[.val (.int p0), .val (.int p1), .val (.long p2), .second, .val (.long p3), .second, .val (.int v2), .unset, .unset, .unset, .unset, .unset, .unset, .unset, .unset, .unset, .unset, .unset, .unset, .unset, .unset, .unset, .unset, .unset]) (hb hby at_3) rfl rfl ?_
  have hcs_v2 : v2 = (0 : Int32) ∨ v2 = (1 : Int32) ∨ v2 = (2 : Int32) ∨ v2 = (3 : Int32) := own_m3 hv2
  rcases hcs_v2 with rfl | rfl | rfl | rfl
  · skip
    refine g_lloadN X0 hx (hb hby at_5) rfl rfl ?_
    refine g_l2i X0 hx (hb hby at_6) rfl rfl ?_
    refine g_i2s X0 hx (hb hby at_7) rfl rfl ?_
    obtain ⟨v8, hv8⟩ : ∃ r, (((p2.toInt32).toInt16.toInt32).toInt64) = r := ⟨_, rfl⟩
    refine g_i2l X0 hx (hb hby at_8) rfl hv8 ?_
    refine g_lstore X0 hx (Ls' := #[.val (.int p0), .val (.int p1), .val (.long p2), .second, .val (.long p3), .second, .val (.int (0 : Int32)), .val (.long v8), .second, .unset, .unset, .unset, .unset, .unset, .unset, .unset, .unset, .unset, .unset, .unset, .unset, .unset, .unset, .unset]) (hb hby at_9) rfl rfl ?_
    refine g_lloadN X0 hx (hb hby at_11) rfl rfl ?_
    refine g_bipush X0 hx (r := (16 : Int32)) (hb hby at_12) rfl rfl ?_
    refine g_lushr X0 hx (hb hby at_14) rfl rfl ?_
    refine g_l2i X0 hx (hb hby at_15) rfl rfl ?_
    refine g_i2s X0 hx (hb hby at_16) rfl rfl ?_
    obtain ⟨v17, hv17⟩ : ∃ r, (((((p2.toUInt64 >>> ((16 : Int32) &&& 0x3f).toInt64.toUInt64).toInt64).toInt32).toInt16.toInt32).toInt64) = r := ⟨_, rfl⟩
    refine g_i2l X0 hx (hb hby at_17) rfl hv17 ?_
    refine g_lstore X0 hx (Ls' := #[.val (.int p0), .val (.int p1), .val (.long p2), .second, .val (.long p3), .second, .val (.int (0 : Int32)), .val (.long v8), .second, .val (.long v17), .second, .unset, .unset, .unset, .unset, .unset, .unset, .unset, .unset, .unset, .unset, .unset, .unset, .unset]) (hb hby at_18) rfl rfl ?_
    refine g_lloadN X0 hx (hb hby at_20) rfl rfl ?_
    refine g_bipush X0 hx (r := (32 : Int32)) (hb hby at_21) rfl rfl ?_
    refine g_lushr X0 hx (hb hby at_23) rfl rfl ?_
    refine g_l2i X0 hx (hb hby at_24) rfl rfl ?_
    refine g_i2s X0 hx (hb hby at_25) rfl rfl ?_
    obtain ⟨v26, hv26⟩ : ∃ r, (((((p2.toUInt64 >>> ((32 : Int32) &&& 0x3f).toInt64.toUInt64).toInt64).toInt32).toInt16.toInt32).toInt64) = r := ⟨_, rfl⟩
    refine g_i2l X0 hx (hb hby at_26) rfl hv26 ?_
    refine g_lstore X0 hx (Ls' := #[.val (.int p0), .val (.int p1), .val (.long p2), .second, .val (.long p3), .second, .val (.int (0 : Int32)), .val (.long v8), .second, .val (.long v17), .second, .val (.long v26), .second, .unset, .unset, .unset, .unset, .unset, .unset, .unset, .unset, .unset, .unset, .unset]) (hb hby at_27) rfl rfl ?_
    refine g_lload X0 hx (hb hby at_29) rfl rfl ?_
    refine g_l2i X0 hx (hb hby at_31) rfl rfl ?_
    refine g_i2s X0 hx (hb hby at_32) rfl rfl ?_
    obtain ⟨v33, hv33⟩ : ∃ r, (((p3.toInt32).toInt16.toInt32).toInt64) = r := ⟨_, rfl⟩
    refine g_i2l X0 hx (hb hby at_33) rfl hv33 ?_
    refine g_lstore X0 hx (Ls' := #[.val (.int p0), .val (.int p1), .val (.long p2), .second, .val (.long p3), .second, .val (.int (0 : Int32)), .val (.long v8), .second, .val (.long v17), .second, .val (.long v26), .second, .val (.long v33), .second, .unset, .unset, .unset, .unset, .unset, .unset, .unset, .unset, .unset]) (hb hby at_34) rfl rfl ?_
    refine g_lload X0 hx (hb hby at_36) rfl rfl ?_
    refine g_bipush X0 hx (r := (16 : Int32)) (hb hby at_38) rfl rfl ?_
    refine g_lushr X0 hx (hb hby at_40) rfl rfl ?_
    refine g_l2i X0 hx (hb hby at_41) rfl rfl ?_
    refine g_i2s X0 hx (hb hby at_42) rfl rfl ?_
    obtain ⟨v43, hv43⟩ : ∃ r, (((((p3.toUInt64 >>> ((16 : Int32) &&& 0x3f).toInt64.toUInt64).toInt64).toInt32).toInt16.toInt32).toInt64) = r := ⟨_, rfl⟩
    refine g_i2l X0 hx (hb hby at_43) rfl hv43 ?_
    refine g_lstore X0 hx (Ls' := #[.val (.int p0), .val (.int p1), .val (.long p2), .second, .val (.long p3), .second, .val (.int (0 : Int32)), .val (.long v8), .second, .val (.long v17), .second, .val (.long v26), .second, .val (.long v33), .second, .val (.long v43), .second, .unset, .unset, .unset, .unset, .unset, .unset, .unset]) (hb hby at_44) rfl rfl ?_
    refine g_lload X0 hx (hb hby at_46) rfl rfl ?_
    refine g_bipush X0 hx (r := (32 : Int32)) (hb hby at_48) rfl rfl ?_
    refine g_lushr X0 hx (hb hby at_50) rfl rfl ?_
    refine g_l2i X0 hx (hb hby at_51) rfl rfl ?_
    refine g_i2s X0 hx (hb hby at_52) rfl rfl ?_
    obtain ⟨v53, hv53⟩ : ∃ r, (((((p3.toUInt64 >>> ((32 : Int32) &&& 0x3f).toInt64.toUInt64).toInt64).toInt32).toInt16.toInt32).toInt64) = r := ⟨_, rfl⟩
    refine g_i2l X0 hx (hb hby at_53) rfl hv53 ?_
    refine g_lstore X0 hx (Ls' := #[.val (.int p0), .val (.int p1), .val (.long p2), .second, .val (.long p3), .second, .val (.int (0 : Int32)), .val (.long v8), .second, .val (.long v17), .second, .val (.long v26), .second, .val (.long v33), .second, .val (.long v43), .second, .val (.long v53), .second, .unset, .unset, .unset, .unset, .unset]) (hb hby at_54) rfl rfl ?_
    refine g_iloadN X0 hx (hb hby at_56) rfl rfl ?_
    obtain ⟨v57, hv57⟩ : ∃ r, (p1.toInt64) = r := ⟨_, rfl⟩
    refine g_i2l X0 hx (hb hby at_57) rfl hv57 ?_
    refine g_lstore X0 hx (Ls' := #[.val (.int p0), .val (.int p1), .val (.long p2), .second, .val (.long p3), .second, .val (.int (0 : Int32)), .val (.long v8), .second, .val (.long v17), .second, .val (.long v26), .second, .val (.long v33), .second, .val (.long v43), .second, .val (.long v53), .second, .val (.long v57), .second, .unset, .unset, .unset]) (hb hby at_58) rfl rfl ?_
    have xq0 := own_exp hv57 (own_sr hv8) (own_sr hv33)
    have xq1 := own_exp hv57 (own_sr hv17) (own_sr hv43)
    have xq2 := own_exp hv57 (own_sr hv26) (own_sr hv53)
    refine g_iload X0 hx (hb hby at_60) rfl rfl ?_
    refine g_newarray X0 hx hZ (aty := .double) (hw _ (List.mem_of_getElem? (i := 0) rfl)) e0 (by decide) 0 (by decide) (by decide) (by decide) (by decide) (ad := "[D") (by decide) (hb hby at_62) rfl fun T1 h1 b1 ka1 X1 e1 q1 E1 A1 V1 => ?_
    have g_b1 : n0 ≤ b1 := Nat.le_trans Z0 (Nat.le_of_eq q1.symm)
    have Z1 : n0 ≤ h1.size := Nat.le_trans Z0 E1.1
    have Vn1 : Arv Z h1 b1 ka1 .double (0 : Int32) [] (.double (0 : UInt64)) := V1
    refine g_astore X1 hx (Ls' := #[.val (.int p0), .val (.int p1), .val (.long p2), .second, .val (.long p3), .second, .val (.int (0 : Int32)), .val (.long v8), .second, .val (.long v17), .second, .val (.long v26), .second, .val (.long v33), .second, .val (.long v43), .second, .val (.long v53), .second, .val (.long v57), .second, .val (.ref b1), .unset, .unset]) (hb hby at_64) rfl rfl rfl ?_
    refine g_iload X1 hx (hb hby at_66) rfl rfl ?_
    refine g_ifY X1 hx (q := 78) (hb hby at_68) (XT.i0_le_t (by decide : ¬ (0 : Int32) < (0 : Int32))) (by decide) (by decide) ?_
    refine g_iload X1 hx (hb hby at_78) rfl rfl ?_
    refine g_iconst X1 hx (r := (1 : Int32)) (hb hby at_80) rfl rfl ?_
    refine g_icmpY X1 hx (q := 91) (hb hby at_81) (XT.ii_le_t (by decide : ¬ (1 : Int32) < (0 : Int32))) (by decide) (by decide) ?_
    refine g_iload X1 hx (hb hby at_91) rfl rfl ?_
    refine g_iconst X1 hx (r := (2 : Int32)) (hb hby at_93) rfl rfl ?_
    refine g_icmpY X1 hx (q := 104) (hb hby at_94) (XT.ii_le_t (by decide : ¬ (2 : Int32) < (0 : Int32))) (by decide) (by decide) ?_
    refine g_iconst X1 hx (r := (3 : Int32)) (hb hby at_104) rfl rfl ?_
    refine g_newarray X1 hx hZ (aty := .double) (hw _ (List.mem_of_getElem? (i := 0) rfl)) e1 (by decide) 3 (by decide) (by decide) (by decide) (by decide) (ad := "[D") (by decide) (hb hby at_105) rfl fun T2 h2 b2 ka2 X2 e2 q2 E2 A2 V2 => ?_
    have ne_b1_b2 : b1 ≠ b2 := own_ne Vn1.lt q2
    have g_b2 : n0 ≤ b2 := Nat.le_trans Z1 (Nat.le_of_eq q2.symm)
    have Z2 : n0 ≤ h2.size := Nat.le_trans Z1 E2.1
    have Vn2 : Arv Z h2 b2 ka2 .double (3 : Int32) [(.double (0 : UInt64)), (.double (0 : UInt64)), (.double (0 : UInt64))] (.double (0 : UInt64)) := V2
    refine g_astore X2 hx (Ls' := #[.val (.int p0), .val (.int p1), .val (.long p2), .second, .val (.long p3), .second, .val (.int (0 : Int32)), .val (.long v8), .second, .val (.long v17), .second, .val (.long v26), .second, .val (.long v33), .second, .val (.long v43), .second, .val (.long v53), .second, .val (.long v57), .second, .val (.ref b1), .val (.ref b2), .unset]) (hb hby at_107) rfl rfl rfl ?_
    refine g_aload X2 hx (hb hby at_109) rfl rfl rfl ?_
    refine g_iconst X2 hx (r := (0 : Int32)) (hb hby at_111) rfl rfl ?_
    refine g_lload X2 hx (hb hby at_112) rfl rfl ?_
    refine g_l2d X2 hx (hb hby at_114) rfl  ?_
    refine g_dastore X2 hx hZ e2 Vn2 ⟨by decide, by decide⟩ (Nat.le_of_ble_eq_true rfl) (hb hby at_115) rfl fun T3 h3 X3 e3 W3 V3 => ?_
    have Vn3 : Arv Z h3 b2 ka2 .double (3 : Int32) [(.double (FP.l2d v33)), (.double (0 : UInt64)), (.double (0 : UInt64))] (.double (0 : UInt64)) := V3
    have N3 := Fr.snoc X3 N0 g_b2
    have Z3 : n0 ≤ h3.size := by rw [W3.size]; exact Z2
    refine g_aload X3 hx (hb hby at_116) rfl rfl rfl ?_
    refine g_iconst X3 hx (r := (1 : Int32)) (hb hby at_118) rfl rfl ?_
    refine g_lload X3 hx (hb hby at_119) rfl rfl ?_
    refine g_l2d X3 hx (hb hby at_121) rfl  ?_
    refine g_dastore X3 hx hZ e3 Vn3 ⟨by decide, by decide⟩ (Nat.le_of_ble_eq_true rfl) (hb hby at_122) rfl fun T4 h4 X4 e4 W4 V4 => ?_
    have Vn4 : Arv Z h4 b2 ka2 .double (3 : Int32) [(.double (FP.l2d v33)), (.double (FP.l2d v43)), (.double (0 : UInt64))] (.double (0 : UInt64)) := V4
    have N4 := Fr.snoc X4 N3 g_b2
    have Z4 : n0 ≤ h4.size := by rw [W4.size]; exact Z3
    refine g_aload X4 hx (hb hby at_123) rfl rfl rfl ?_
    refine g_iconst X4 hx (r := (2 : Int32)) (hb hby at_125) rfl rfl ?_
    refine g_lload X4 hx (hb hby at_126) rfl rfl ?_
    refine g_l2d X4 hx (hb hby at_128) rfl  ?_
    refine g_dastore X4 hx hZ e4 Vn4 ⟨by decide, by decide⟩ (Nat.le_of_ble_eq_true rfl) (hb hby at_129) rfl fun T5 h5 X5 e5 W5 V5 => ?_
    have Vn5 : Arv Z h5 b2 ka2 .double (3 : Int32) [(.double (FP.l2d v33)), (.double (FP.l2d v43)), (.double (FP.l2d v53))] (.double (0 : UInt64)) := V5
    have N5 := Fr.snoc X5 N4 g_b2
    have Z5 : n0 ≤ h5.size := by rw [W5.size]; exact Z4
    refine g_aload X5 hx (hb hby at_130) rfl rfl rfl ?_
    refine g_iloadN X5 hx (hb hby at_132) rfl rfl ?_
    refine g_i2d X5 hx (hb hby at_133) rfl  ?_
    refine g_aload X5 hx (hb hby at_134) rfl rfl rfl ?_
    have f7 : Arv Z h5 b1 ka1 .double (0 : Int32) [] (.double (0 : UInt64)) := ((((Vn1.ext E2).other W3 ne_b1_b2).other W4 ne_b1_b2).other W5 ne_b1_b2)
    refine g_static X5 hx hZ hown (hw _ (List.mem_of_getElem? (i := 1) rfl)) (hw _ (List.mem_of_getElem? (i := 2) rfl)) (hw _ (List.mem_of_getElem? (i := 3) rfl)) (hw _ (List.mem_of_getElem? (i := 4) rfl)) (by decide) (rm_add0 l Z a0 hw b1 ka1 b2 ka2 (FP.i2d p1) (FP.l2d v33) (FP.l2d v43) (FP.l2d v53) h5 n0 Z5 f7 Vn5 g_b1 ne_b1_b2) (by rw [hml]; rfl) e5 [(.ref b1), (.double (FP.i2d p1)), (.ref b2)] rfl rfl (W := 0) (Nat.le_of_eq rfl) (by decide) (by decide) (by decide) (by decide) (lenOf pd_0 rfl) (hb hby at_136) rfl fun v6 T6 L6 X6 hQ6 => ?_
    obtain ⟨rfl, Nq6, kc6, p6_0⟩ := hQ6
    have N6 := Fr.app N5 Nq6
    have Z6 : n0 ≤ T6.heap.size := Nat.le_trans Z5 kc6.1
    have pv6_0 : Arv Z T6.heap b1 ka1 .double (0 : Int32) [] (.double (0 : UInt64)) := p6_0
    show Ga _ _ _ _ _ _ _ _ _ _ _ []
    refine g_aload X6 hx (hb hby at_139) rfl rfl rfl ?_
    refine g_len X6 hx hZ rfl pv6_0 (hb hby at_141) rfl ?_
    refine g_iload X6 hx (hb hby at_142) rfl rfl ?_
    refine g_icmpN X6 hx (hb hby at_144) rfl (XT.ii_ne_f (by decide : (0 : Int32) = (0 : Int32))) ?_
    refine g_iconst X6 hx (r := (1 : Int32)) (hb hby at_147) rfl rfl ?_
    refine g_goto X6 hx (q := 152) (hb hby at_148) (by decide) (by decide) ?_
    refine g_istore X6 hx (Ls' := #[.val (.int p0), .val (.int p1), .val (.long p2), .second, .val (.long p3), .second, .val (.int (0 : Int32)), .val (.long v8), .second, .val (.long v17), .second, .val (.long v26), .second, .val (.long v33), .second, .val (.long v43), .second, .val (.long v53), .second, .val (.long v57), .second, .val (.ref b1), .val (.ref b2), .val (.int (1 : Int32))]) (hb hby at_152) rfl rfl ?_
    refine g_iload X6 hx (hb hby at_154) rfl rfl ?_
    refine g_ifY X6 hx (q := 188) (hb hby at_156) (XT.i0_le_t (by decide : ¬ (0 : Int32) < (0 : Int32))) (by decide) (by decide) ?_
    refine g_iload X6 hx (hb hby at_188) rfl rfl ?_
    refine g_iconst X6 hx (r := (1 : Int32)) (hb hby at_190) rfl rfl ?_
    refine g_icmpY X6 hx (q := 223) (hb hby at_191) (XT.ii_le_t (by decide : ¬ (1 : Int32) < (0 : Int32))) (by decide) (by decide) ?_
    refine g_iload X6 hx (hb hby at_223) rfl rfl ?_
    refine g_iconst X6 hx (r := (2 : Int32)) (hb hby at_225) rfl rfl ?_
    refine g_icmpY X6 hx (q := 258) (hb hby at_226) (XT.ii_le_t (by decide : ¬ (2 : Int32) < (0 : Int32))) (by decide) (by decide) ?_
    refine g_iload X6 hx (hb hby at_258) rfl rfl ?_
    refine g_ifN X6 hx (hb hby at_260) rfl (XT.i0_eq_f (by decide : ¬ (1 : Int32) = (0 : Int32))) ?_
    refine g_aload X6 hx (hb hby at_263) rfl rfl rfl ?_
    refine g_iconst X6 hx (r := (0 : Int32)) (hb hby at_265) rfl rfl ?_
    have f8 : Arv Z T6.heap b2 ka2 .double (3 : Int32) [(.double (FP.l2d v33)), (.double (FP.l2d v43)), (.double (FP.l2d v53))] (.double (0 : UInt64)) := (Vn5.keep kc6 (ninS (Ne.symm ne_b1_b2) nin0))
    refine g_daload X6 hx hZ rfl f8 (v := (.double (FP.l2d v33))) ⟨by decide, by decide⟩ rfl (hb hby at_266) rfl ?_
    refine g_lload X6 hx (hb hby at_267) rfl rfl ?_
    refine g_l2d X6 hx (hb hby at_269) rfl  ?_
    refine g_dcmp X6 hx (hb hby at_270) rfl  ?_
    have hc271 : (cmpValue (FP.dcmp (FP.l2d v33) (FP.l2d v33)) .l) = (0 : Int32) := (dcmpV_self (nn_w rfl) _)
    refine g_ifN X6 hx (hb hby at_271) rfl (XT.i0_ne_f hc271) ?_
    refine g_aload X6 hx (hb hby at_274) rfl rfl rfl ?_
    refine g_iconst X6 hx (r := (1 : Int32)) (hb hby at_276) rfl rfl ?_
    refine g_daload X6 hx hZ rfl f8 (v := (.double (FP.l2d v43))) ⟨by decide, by decide⟩ rfl (hb hby at_277) rfl ?_
    refine g_lload X6 hx (hb hby at_278) rfl rfl ?_
    refine g_l2d X6 hx (hb hby at_280) rfl  ?_
    refine g_dcmp X6 hx (hb hby at_281) rfl  ?_
    have hc282 : (cmpValue (FP.dcmp (FP.l2d v43) (FP.l2d v43)) .l) = (0 : Int32) := (dcmpV_self (nn_w rfl) _)
    refine g_ifN X6 hx (hb hby at_282) rfl (XT.i0_ne_f hc282) ?_
    refine g_aload X6 hx (hb hby at_285) rfl rfl rfl ?_
    refine g_iconst X6 hx (r := (2 : Int32)) (hb hby at_287) rfl rfl ?_
    refine g_daload X6 hx hZ rfl f8 (v := (.double (FP.l2d v53))) ⟨by decide, by decide⟩ rfl (hb hby at_288) rfl ?_
    refine g_lload X6 hx (hb hby at_289) rfl rfl ?_
    refine g_l2d X6 hx (hb hby at_291) rfl  ?_
    refine g_dcmp X6 hx (hb hby at_292) rfl  ?_
    have hc293 : (cmpValue (FP.dcmp (FP.l2d v53) (FP.l2d v53)) .l) = (0 : Int32) := (dcmpV_self (nn_w rfl) _)
    refine g_ifN X6 hx (hb hby at_293) rfl (XT.i0_ne_f hc293) ?_
    refine g_iconst X6 hx (r := (1 : Int32)) (hb hby at_296) rfl rfl ?_
    refine g_goto X6 hx (q := 301) (hb hby at_297) (by decide) (by decide) ?_
    refine g_istore X6 hx (Ls' := #[.val (.int p0), .val (.int p1), .val (.long p2), .second, .val (.long p3), .second, .val (.int (0 : Int32)), .val (.long v8), .second, .val (.long v17), .second, .val (.long v26), .second, .val (.long v33), .second, .val (.long v43), .second, .val (.long v53), .second, .val (.long v57), .second, .val (.ref b1), .val (.ref b2), .val (.int (1 : Int32))]) (hb hby at_301) rfl rfl ?_
    refine g_iload X6 hx (hb hby at_303) rfl rfl ?_
    exact g_retN X6 hx (t := .boolean) (r := (1 : Int32)) hret (by simp) hlk (hb hby at_305) rfl (by decide) (by decide) ⟨rfl, N6⟩
  · skip
    refine g_lloadN X0 hx (hb hby at_5) rfl rfl ?_
    refine g_l2i X0 hx (hb hby at_6) rfl rfl ?_
    refine g_i2s X0 hx (hb hby at_7) rfl rfl ?_
    obtain ⟨v8, hv8⟩ : ∃ r, (((p2.toInt32).toInt16.toInt32).toInt64) = r := ⟨_, rfl⟩
    refine g_i2l X0 hx (hb hby at_8) rfl hv8 ?_
    refine g_lstore X0 hx (Ls' := #[.val (.int p0), .val (.int p1), .val (.long p2), .second, .val (.long p3), .second, .val (.int (1 : Int32)), .val (.long v8), .second, .unset, .unset, .unset, .unset, .unset, .unset, .unset, .unset, .unset, .unset, .unset, .unset, .unset, .unset, .unset]) (hb hby at_9) rfl rfl ?_
    refine g_lloadN X0 hx (hb hby at_11) rfl rfl ?_
    refine g_bipush X0 hx (r := (16 : Int32)) (hb hby at_12) rfl rfl ?_
    refine g_lushr X0 hx (hb hby at_14) rfl rfl ?_
    refine g_l2i X0 hx (hb hby at_15) rfl rfl ?_
    refine g_i2s X0 hx (hb hby at_16) rfl rfl ?_
    obtain ⟨v17, hv17⟩ : ∃ r, (((((p2.toUInt64 >>> ((16 : Int32) &&& 0x3f).toInt64.toUInt64).toInt64).toInt32).toInt16.toInt32).toInt64) = r := ⟨_, rfl⟩
    refine g_i2l X0 hx (hb hby at_17) rfl hv17 ?_
    refine g_lstore X0 hx (Ls' := #[.val (.int p0), .val (.int p1), .val (.long p2), .second, .val (.long p3), .second, .val (.int (1 : Int32)), .val (.long v8), .second, .val (.long v17), .second, .unset, .unset, .unset, .unset, .unset, .unset, .unset, .unset, .unset, .unset, .unset, .unset, .unset]) (hb hby at_18) rfl rfl ?_
    refine g_lloadN X0 hx (hb hby at_20) rfl rfl ?_
    refine g_bipush X0 hx (r := (32 : Int32)) (hb hby at_21) rfl rfl ?_
    refine g_lushr X0 hx (hb hby at_23) rfl rfl ?_
    refine g_l2i X0 hx (hb hby at_24) rfl rfl ?_
    refine g_i2s X0 hx (hb hby at_25) rfl rfl ?_
    obtain ⟨v26, hv26⟩ : ∃ r, (((((p2.toUInt64 >>> ((32 : Int32) &&& 0x3f).toInt64.toUInt64).toInt64).toInt32).toInt16.toInt32).toInt64) = r := ⟨_, rfl⟩
    refine g_i2l X0 hx (hb hby at_26) rfl hv26 ?_
    refine g_lstore X0 hx (Ls' := #[.val (.int p0), .val (.int p1), .val (.long p2), .second, .val (.long p3), .second, .val (.int (1 : Int32)), .val (.long v8), .second, .val (.long v17), .second, .val (.long v26), .second, .unset, .unset, .unset, .unset, .unset, .unset, .unset, .unset, .unset, .unset, .unset]) (hb hby at_27) rfl rfl ?_
    refine g_lload X0 hx (hb hby at_29) rfl rfl ?_
    refine g_l2i X0 hx (hb hby at_31) rfl rfl ?_
    refine g_i2s X0 hx (hb hby at_32) rfl rfl ?_
    obtain ⟨v33, hv33⟩ : ∃ r, (((p3.toInt32).toInt16.toInt32).toInt64) = r := ⟨_, rfl⟩
    refine g_i2l X0 hx (hb hby at_33) rfl hv33 ?_
    refine g_lstore X0 hx (Ls' := #[.val (.int p0), .val (.int p1), .val (.long p2), .second, .val (.long p3), .second, .val (.int (1 : Int32)), .val (.long v8), .second, .val (.long v17), .second, .val (.long v26), .second, .val (.long v33), .second, .unset, .unset, .unset, .unset, .unset, .unset, .unset, .unset, .unset]) (hb hby at_34) rfl rfl ?_
    refine g_lload X0 hx (hb hby at_36) rfl rfl ?_
    refine g_bipush X0 hx (r := (16 : Int32)) (hb hby at_38) rfl rfl ?_
    refine g_lushr X0 hx (hb hby at_40) rfl rfl ?_
    refine g_l2i X0 hx (hb hby at_41) rfl rfl ?_
    refine g_i2s X0 hx (hb hby at_42) rfl rfl ?_
    obtain ⟨v43, hv43⟩ : ∃ r, (((((p3.toUInt64 >>> ((16 : Int32) &&& 0x3f).toInt64.toUInt64).toInt64).toInt32).toInt16.toInt32).toInt64) = r := ⟨_, rfl⟩
    refine g_i2l X0 hx (hb hby at_43) rfl hv43 ?_
    refine g_lstore X0 hx (Ls' := #[.val (.int p0), .val (.int p1), .val (.long p2), .second, .val (.long p3), .second, .val (.int (1 : Int32)), .val (.long v8), .second, .val (.long v17), .second, .val (.long v26), .second, .val (.long v33), .second, .val (.long v43), .second, .unset, .unset, .unset, .unset, .unset, .unset, .unset]) (hb hby at_44) rfl rfl ?_
    refine g_lload X0 hx (hb hby at_46) rfl rfl ?_
    refine g_bipush X0 hx (r := (32 : Int32)) (hb hby at_48) rfl rfl ?_
    refine g_lushr X0 hx (hb hby at_50) rfl rfl ?_
    refine g_l2i X0 hx (hb hby at_51) rfl rfl ?_
    refine g_i2s X0 hx (hb hby at_52) rfl rfl ?_
    obtain ⟨v53, hv53⟩ : ∃ r, (((((p3.toUInt64 >>> ((32 : Int32) &&& 0x3f).toInt64.toUInt64).toInt64).toInt32).toInt16.toInt32).toInt64) = r := ⟨_, rfl⟩
    refine g_i2l X0 hx (hb hby at_53) rfl hv53 ?_
    refine g_lstore X0 hx (Ls' := #[.val (.int p0), .val (.int p1), .val (.long p2), .second, .val (.long p3), .second, .val (.int (1 : Int32)), .val (.long v8), .second, .val (.long v17), .second, .val (.long v26), .second, .val (.long v33), .second, .val (.long v43), .second, .val (.long v53), .second, .unset, .unset, .unset, .unset, .unset]) (hb hby at_54) rfl rfl ?_
    refine g_iloadN X0 hx (hb hby at_56) rfl rfl ?_
    obtain ⟨v57, hv57⟩ : ∃ r, (p1.toInt64) = r := ⟨_, rfl⟩
    refine g_i2l X0 hx (hb hby at_57) rfl hv57 ?_
    refine g_lstore X0 hx (Ls' := #[.val (.int p0), .val (.int p1), .val (.long p2), .second, .val (.long p3), .second, .val (.int (1 : Int32)), .val (.long v8), .second, .val (.long v17), .second, .val (.long v26), .second, .val (.long v33), .second, .val (.long v43), .second, .val (.long v53), .second, .val (.long v57), .second, .unset, .unset, .unset]) (hb hby at_58) rfl rfl ?_
    have xq0 := own_exp hv57 (own_sr hv8) (own_sr hv33)
    have xq1 := own_exp hv57 (own_sr hv17) (own_sr hv43)
    have xq2 := own_exp hv57 (own_sr hv26) (own_sr hv53)
    refine g_iload X0 hx (hb hby at_60) rfl rfl ?_
    refine g_newarray X0 hx hZ (aty := .double) (hw _ (List.mem_of_getElem? (i := 0) rfl)) e0 (by decide) 1 (by decide) (by decide) (by decide) (by decide) (ad := "[D") (by decide) (hb hby at_62) rfl fun T9 h9 b9 ka9 X9 e9 q9 E9 A9 V9 => ?_
    have g_b9 : n0 ≤ b9 := Nat.le_trans Z0 (Nat.le_of_eq q9.symm)
    have Z9 : n0 ≤ h9.size := Nat.le_trans Z0 E9.1
    have Vn9 : Arv Z h9 b9 ka9 .double (1 : Int32) [(.double (0 : UInt64))] (.double (0 : UInt64)) := V9
    refine g_astore X9 hx (Ls' := #[.val (.int p0), .val (.int p1), .val (.long p2), .second, .val (.long p3), .second, .val (.int (1 : Int32)), .val (.long v8), .second, .val (.long v17), .second, .val (.long v26), .second, .val (.long v33), .second, .val (.long v43), .second, .val (.long v53), .second, .val (.long v57), .second, .val (.ref b9), .unset, .unset]) (hb hby at_64) rfl rfl rfl ?_
    refine g_iload X9 hx (hb hby at_66) rfl rfl ?_
    refine g_ifN X9 hx (hb hby at_68) rfl (XT.i0_le_f (by decide : (0 : Int32) < (1 : Int32))) ?_
    refine g_aload X9 hx (hb hby at_71) rfl rfl rfl ?_
    refine g_iconst X9 hx (r := (0 : Int32)) (hb hby at_73) rfl rfl ?_
    refine g_lload X9 hx (hb hby at_74) rfl rfl ?_
    refine g_l2d X9 hx (hb hby at_76) rfl  ?_
    refine g_dastore X9 hx hZ e9 Vn9 ⟨by decide, by decide⟩ (Nat.le_of_ble_eq_true rfl) (hb hby at_77) rfl fun T10 h10 X10 e10 W10 V10 => ?_
    have Vn10 : Arv Z h10 b9 ka9 .double (1 : Int32) [(.double (FP.l2d v8))] (.double (0 : UInt64)) := V10
    have N10 := Fr.snoc X10 N0 g_b9
    have Z10 : n0 ≤ h10.size := by rw [W10.size]; exact Z9
    refine g_iload X10 hx (hb hby at_78) rfl rfl ?_
    refine g_iconst X10 hx (r := (1 : Int32)) (hb hby at_80) rfl rfl ?_
    refine g_icmpY X10 hx (q := 91) (hb hby at_81) (XT.ii_le_t (by decide : ¬ (1 : Int32) < (1 : Int32))) (by decide) (by decide) ?_
    refine g_iload X10 hx (hb hby at_91) rfl rfl ?_
    refine g_iconst X10 hx (r := (2 : Int32)) (hb hby at_93) rfl rfl ?_
    refine g_icmpY X10 hx (q := 104) (hb hby at_94) (XT.ii_le_t (by decide : ¬ (2 : Int32) < (1 : Int32))) (by decide) (by decide) ?_
    refine g_iconst X10 hx (r := (3 : Int32)) (hb hby at_104) rfl rfl ?_
    refine g_newarray X10 hx hZ (aty := .double) (hw _ (List.mem_of_getElem? (i := 0) rfl)) e10 (by decide) 3 (by decide) (by decide) (by decide) (by decide) (ad := "[D") (by decide) (hb hby at_105) rfl fun T11 h11 b11 ka11 X11 e11 q11 E11 A11 V11 => ?_
    have ne_b9_b11 : b9 ≠ b11 := own_ne Vn10.lt q11
    have g_b11 : n0 ≤ b11 := Nat.le_trans Z10 (Nat.le_of_eq q11.symm)
    have Z11 : n0 ≤ h11.size := Nat.le_trans Z10 E11.1
    have Vn11 : Arv Z h11 b11 ka11 .double (3 : Int32) [(.double (0 : UInt64)), (.double (0 : UInt64)), (.double (0 : UInt64))] (.double (0 : UInt64)) := V11
    refine g_astore X11 hx (Ls' := #[.val (.int p0), .val (.int p1), .val (.long p2), .second, .val (.long p3), .second, .val (.int (1 : Int32)), .val (.long v8), .second, .val (.long v17), .second, .val (.long v26), .second, .val (.long v33), .second, .val (.long v43), .second, .val (.long v53), .second, .val (.long v57), .second, .val (.ref b9), .val (.ref b11), .unset]) (hb hby at_107) rfl rfl rfl ?_
    refine g_aload X11 hx (hb hby at_109) rfl rfl rfl ?_
    refine g_iconst X11 hx (r := (0 : Int32)) (hb hby at_111) rfl rfl ?_
    refine g_lload X11 hx (hb hby at_112) rfl rfl ?_
    refine g_l2d X11 hx (hb hby at_114) rfl  ?_
    refine g_dastore X11 hx hZ e11 Vn11 ⟨by decide, by decide⟩ (Nat.le_of_ble_eq_true rfl) (hb hby at_115) rfl fun T12 h12 X12 e12 W12 V12 => ?_
    have Vn12 : Arv Z h12 b11 ka11 .double (3 : Int32) [(.double (FP.l2d v33)), (.double (0 : UInt64)), (.double (0 : UInt64))] (.double (0 : UInt64)) := V12
    have N12 := Fr.snoc X12 N10 g_b11
    have Z12 : n0 ≤ h12.size := by rw [W12.size]; exact Z11
    refine g_aload X12 hx (hb hby at_116) rfl rfl rfl ?_
    refine g_iconst X12 hx (r := (1 : Int32)) (hb hby at_118) rfl rfl ?_
    refine g_lload X12 hx (hb hby at_119) rfl rfl ?_
    refine g_l2d X12 hx (hb hby at_121) rfl  ?_
    refine g_dastore X12 hx hZ e12 Vn12 ⟨by decide, by decide⟩ (Nat.le_of_ble_eq_true rfl) (hb hby at_122) rfl fun T13 h13 X13 e13 W13 V13 => ?_
    have Vn13 : Arv Z h13 b11 ka11 .double (3 : Int32) [(.double (FP.l2d v33)), (.double (FP.l2d v43)), (.double (0 : UInt64))] (.double (0 : UInt64)) := V13
    have N13 := Fr.snoc X13 N12 g_b11
    have Z13 : n0 ≤ h13.size := by rw [W13.size]; exact Z12
    refine g_aload X13 hx (hb hby at_123) rfl rfl rfl ?_
    refine g_iconst X13 hx (r := (2 : Int32)) (hb hby at_125) rfl rfl ?_
    refine g_lload X13 hx (hb hby at_126) rfl rfl ?_
    refine g_l2d X13 hx (hb hby at_128) rfl  ?_
    refine g_dastore X13 hx hZ e13 Vn13 ⟨by decide, by decide⟩ (Nat.le_of_ble_eq_true rfl) (hb hby at_129) rfl fun T14 h14 X14 e14 W14 V14 => ?_
    have Vn14 : Arv Z h14 b11 ka11 .double (3 : Int32) [(.double (FP.l2d v33)), (.double (FP.l2d v43)), (.double (FP.l2d v53))] (.double (0 : UInt64)) := V14
    have N14 := Fr.snoc X14 N13 g_b11
    have Z14 : n0 ≤ h14.size := by rw [W14.size]; exact Z13
    refine g_aload X14 hx (hb hby at_130) rfl rfl rfl ?_
    refine g_iloadN X14 hx (hb hby at_132) rfl rfl ?_
    refine g_i2d X14 hx (hb hby at_133) rfl  ?_
    refine g_aload X14 hx (hb hby at_134) rfl rfl rfl ?_
    have f16 : Arv Z h14 b9 ka9 .double (1 : Int32) [(.double (FP.l2d v8))] (.double (0 : UInt64)) := ((((Vn10.ext E11).other W12 ne_b9_b11).other W13 ne_b9_b11).other W14 ne_b9_b11)
    refine g_static X14 hx hZ hown (hw _ (List.mem_of_getElem? (i := 1) rfl)) (hw _ (List.mem_of_getElem? (i := 2) rfl)) (hw _ (List.mem_of_getElem? (i := 3) rfl)) (hw _ (List.mem_of_getElem? (i := 4) rfl)) (by decide) (rm_add1 l Z a0 hw b9 ka9 b11 ka11 (FP.i2d p1) (FP.l2d v8) (FP.l2d v33) (FP.l2d v43) (FP.l2d v53) h14 n0 Z14 f16 Vn14 g_b9 ne_b9_b11 xq0.1 xq0.2.1) (by rw [hml]; rfl) e14 [(.ref b9), (.double (FP.i2d p1)), (.ref b11)] rfl rfl (W := 0) (Nat.le_of_eq rfl) (by decide) (by decide) (by decide) (by decide) (lenOf pd_0 rfl) (hb hby at_136) rfl fun v15 T15 L15 X15 hQ15 => ?_
    obtain ⟨rfl, Nq15, kc15, p15_0⟩ := hQ15
    have N15 := Fr.app N14 Nq15
    have Z15 : n0 ≤ T15.heap.size := Nat.le_trans Z14 kc15.1
    have pv15_0 : Arv Z T15.heap b9 ka9 .double (1 : Int32) [(.double (FP.dadd (FP.l2d v8) (FP.dmul (FP.i2d p1) (FP.l2d v33))))] (.double (0 : UInt64)) := p15_0
    show Ga _ _ _ _ _ _ _ _ _ _ _ []
    refine g_aload X15 hx (hb hby at_139) rfl rfl rfl ?_
    refine g_len X15 hx hZ rfl pv15_0 (hb hby at_141) rfl ?_
    refine g_iload X15 hx (hb hby at_142) rfl rfl ?_
    refine g_icmpN X15 hx (hb hby at_144) rfl (XT.ii_ne_f (by decide : (1 : Int32) = (1 : Int32))) ?_
    refine g_iconst X15 hx (r := (1 : Int32)) (hb hby at_147) rfl rfl ?_
    refine g_goto X15 hx (q := 152) (hb hby at_148) (by decide) (by decide) ?_
    refine g_istore X15 hx (Ls' := #[.val (.int p0), .val (.int p1), .val (.long p2), .second, .val (.long p3), .second, .val (.int (1 : Int32)), .val (.long v8), .second, .val (.long v17), .second, .val (.long v26), .second, .val (.long v33), .second, .val (.long v43), .second, .val (.long v53), .second, .val (.long v57), .second, .val (.ref b9), .val (.ref b11), .val (.int (1 : Int32))]) (hb hby at_152) rfl rfl ?_
    refine g_iload X15 hx (hb hby at_154) rfl rfl ?_
    refine g_ifN X15 hx (hb hby at_156) rfl (XT.i0_le_f (by decide : (0 : Int32) < (1 : Int32))) ?_
    refine g_iload X15 hx (hb hby at_159) rfl rfl ?_
    refine g_ifN X15 hx (hb hby at_161) rfl (XT.i0_eq_f (by decide : ¬ (1 : Int32) = (0 : Int32))) ?_
    refine g_aload X15 hx (hb hby at_164) rfl rfl rfl ?_
    refine g_iconst X15 hx (r := (0 : Int32)) (hb hby at_166) rfl rfl ?_
    refine g_daload X15 hx hZ rfl pv15_0 (v := (.double (FP.dadd (FP.l2d v8) (FP.dmul (FP.i2d p1) (FP.l2d v33))))) ⟨by decide, by decide⟩ rfl (hb hby at_167) rfl ?_
    refine g_lload X15 hx (hb hby at_168) rfl rfl ?_
    refine g_lload X15 hx (hb hby at_170) rfl rfl ?_
    refine g_lload X15 hx (hb hby at_172) rfl rfl ?_
    refine g_lmul X15 hx (hb hby at_174) rfl rfl ?_
    refine g_ladd X15 hx (hb hby at_175) rfl rfl ?_
    refine g_l2d X15 hx (hb hby at_176) rfl  ?_
    refine g_dcmp X15 hx (hb hby at_177) rfl  ?_
    have hc178 : (cmpValue (FP.dcmp (FP.dadd (FP.l2d v8) (FP.dmul (FP.i2d p1) (FP.l2d v33))) (FP.l2d (v8 + (v57 * v33)))) .l) = (0 : Int32) := xq0.2.2
    refine g_ifN X15 hx (hb hby at_178) rfl (XT.i0_ne_f hc178) ?_
    refine g_iconst X15 hx (r := (1 : Int32)) (hb hby at_181) rfl rfl ?_
    refine g_goto X15 hx (q := 186) (hb hby at_182) (by decide) (by decide) ?_
    refine g_istore X15 hx (Ls' := #[.val (.int p0), .val (.int p1), .val (.long p2), .second, .val (.long p3), .second, .val (.int (1 : Int32)), .val (.long v8), .second, .val (.long v17), .second, .val (.long v26), .second, .val (.long v33), .second, .val (.long v43), .second, .val (.long v53), .second, .val (.long v57), .second, .val (.ref b9), .val (.ref b11), .val (.int (1 : Int32))]) (hb hby at_186) rfl rfl ?_
    refine g_iload X15 hx (hb hby at_188) rfl rfl ?_
    refine g_iconst X15 hx (r := (1 : Int32)) (hb hby at_190) rfl rfl ?_
    refine g_icmpY X15 hx (q := 223) (hb hby at_191) (XT.ii_le_t (by decide : ¬ (1 : Int32) < (1 : Int32))) (by decide) (by decide) ?_
    refine g_iload X15 hx (hb hby at_223) rfl rfl ?_
    refine g_iconst X15 hx (r := (2 : Int32)) (hb hby at_225) rfl rfl ?_
    refine g_icmpY X15 hx (q := 258) (hb hby at_226) (XT.ii_le_t (by decide : ¬ (2 : Int32) < (1 : Int32))) (by decide) (by decide) ?_
    refine g_iload X15 hx (hb hby at_258) rfl rfl ?_
    refine g_ifN X15 hx (hb hby at_260) rfl (XT.i0_eq_f (by decide : ¬ (1 : Int32) = (0 : Int32))) ?_
    refine g_aload X15 hx (hb hby at_263) rfl rfl rfl ?_
    refine g_iconst X15 hx (r := (0 : Int32)) (hb hby at_265) rfl rfl ?_
    have f17 : Arv Z T15.heap b11 ka11 .double (3 : Int32) [(.double (FP.l2d v33)), (.double (FP.l2d v43)), (.double (FP.l2d v53))] (.double (0 : UInt64)) := (Vn14.keep kc15 (ninS (Ne.symm ne_b9_b11) nin0))
    refine g_daload X15 hx hZ rfl f17 (v := (.double (FP.l2d v33))) ⟨by decide, by decide⟩ rfl (hb hby at_266) rfl ?_
    refine g_lload X15 hx (hb hby at_267) rfl rfl ?_
    refine g_l2d X15 hx (hb hby at_269) rfl  ?_
    refine g_dcmp X15 hx (hb hby at_270) rfl  ?_
    have hc271 : (cmpValue (FP.dcmp (FP.l2d v33) (FP.l2d v33)) .l) = (0 : Int32) := (dcmpV_self (nn_w rfl) _)
    refine g_ifN X15 hx (hb hby at_271) rfl (XT.i0_ne_f hc271) ?_
    refine g_aload X15 hx (hb hby at_274) rfl rfl rfl ?_
    refine g_iconst X15 hx (r := (1 : Int32)) (hb hby at_276) rfl rfl ?_
    refine g_daload X15 hx hZ rfl f17 (v := (.double (FP.l2d v43))) ⟨by decide, by decide⟩ rfl (hb hby at_277) rfl ?_
    refine g_lload X15 hx (hb hby at_278) rfl rfl ?_
    refine g_l2d X15 hx (hb hby at_280) rfl  ?_
    refine g_dcmp X15 hx (hb hby at_281) rfl  ?_
    have hc282 : (cmpValue (FP.dcmp (FP.l2d v43) (FP.l2d v43)) .l) = (0 : Int32) := (dcmpV_self (nn_w rfl) _)
    refine g_ifN X15 hx (hb hby at_282) rfl (XT.i0_ne_f hc282) ?_
    refine g_aload X15 hx (hb hby at_285) rfl rfl rfl ?_
    refine g_iconst X15 hx (r := (2 : Int32)) (hb hby at_287) rfl rfl ?_
    refine g_daload X15 hx hZ rfl f17 (v := (.double (FP.l2d v53))) ⟨by decide, by decide⟩ rfl (hb hby at_288) rfl ?_
    refine g_lload X15 hx (hb hby at_289) rfl rfl ?_
    refine g_l2d X15 hx (hb hby at_291) rfl  ?_
    refine g_dcmp X15 hx (hb hby at_292) rfl  ?_
    have hc293 : (cmpValue (FP.dcmp (FP.l2d v53) (FP.l2d v53)) .l) = (0 : Int32) := (dcmpV_self (nn_w rfl) _)
    refine g_ifN X15 hx (hb hby at_293) rfl (XT.i0_ne_f hc293) ?_
    refine g_iconst X15 hx (r := (1 : Int32)) (hb hby at_296) rfl rfl ?_
    refine g_goto X15 hx (q := 301) (hb hby at_297) (by decide) (by decide) ?_
    refine g_istore X15 hx (Ls' := #[.val (.int p0), .val (.int p1), .val (.long p2), .second, .val (.long p3), .second, .val (.int (1 : Int32)), .val (.long v8), .second, .val (.long v17), .second, .val (.long v26), .second, .val (.long v33), .second, .val (.long v43), .second, .val (.long v53), .second, .val (.long v57), .second, .val (.ref b9), .val (.ref b11), .val (.int (1 : Int32))]) (hb hby at_301) rfl rfl ?_
    refine g_iload X15 hx (hb hby at_303) rfl rfl ?_
    exact g_retN X15 hx (t := .boolean) (r := (1 : Int32)) hret (by simp) hlk (hb hby at_305) rfl (by decide) (by decide) ⟨rfl, N15⟩
  · skip
    refine g_lloadN X0 hx (hb hby at_5) rfl rfl ?_
    refine g_l2i X0 hx (hb hby at_6) rfl rfl ?_
    refine g_i2s X0 hx (hb hby at_7) rfl rfl ?_
    obtain ⟨v8, hv8⟩ : ∃ r, (((p2.toInt32).toInt16.toInt32).toInt64) = r := ⟨_, rfl⟩
    refine g_i2l X0 hx (hb hby at_8) rfl hv8 ?_
    refine g_lstore X0 hx (Ls' := #[.val (.int p0), .val (.int p1), .val (.long p2), .second, .val (.long p3), .second, .val (.int (2 : Int32)), .val (.long v8), .second, .unset, .unset, .unset, .unset, .unset, .unset, .unset, .unset, .unset, .unset, .unset, .unset, .unset, .unset, .unset]) (hb hby at_9) rfl rfl ?_
    refine g_lloadN X0 hx (hb hby at_11) rfl rfl ?_
    refine g_bipush X0 hx (r := (16 : Int32)) (hb hby at_12) rfl rfl ?_
    refine g_lushr X0 hx (hb hby at_14) rfl rfl ?_
    refine g_l2i X0 hx (hb hby at_15) rfl rfl ?_
    refine g_i2s X0 hx (hb hby at_16) rfl rfl ?_
    obtain ⟨v17, hv17⟩ : ∃ r, (((((p2.toUInt64 >>> ((16 : Int32) &&& 0x3f).toInt64.toUInt64).toInt64).toInt32).toInt16.toInt32).toInt64) = r := ⟨_, rfl⟩
    refine g_i2l X0 hx (hb hby at_17) rfl hv17 ?_
    refine g_lstore X0 hx (Ls' := #[.val (.int p0), .val (.int p1), .val (.long p2), .second, .val (.long p3), .second, .val (.int (2 : Int32)), .val (.long v8), .second, .val (.long v17), .second, .unset, .unset, .unset, .unset, .unset, .unset, .unset, .unset, .unset, .unset, .unset, .unset, .unset]) (hb hby at_18) rfl rfl ?_
    refine g_lloadN X0 hx (hb hby at_20) rfl rfl ?_
    refine g_bipush X0 hx (r := (32 : Int32)) (hb hby at_21) rfl rfl ?_
    refine g_lushr X0 hx (hb hby at_23) rfl rfl ?_
    refine g_l2i X0 hx (hb hby at_24) rfl rfl ?_
    refine g_i2s X0 hx (hb hby at_25) rfl rfl ?_
    obtain ⟨v26, hv26⟩ : ∃ r, (((((p2.toUInt64 >>> ((32 : Int32) &&& 0x3f).toInt64.toUInt64).toInt64).toInt32).toInt16.toInt32).toInt64) = r := ⟨_, rfl⟩
    refine g_i2l X0 hx (hb hby at_26) rfl hv26 ?_
    refine g_lstore X0 hx (Ls' := #[.val (.int p0), .val (.int p1), .val (.long p2), .second, .val (.long p3), .second, .val (.int (2 : Int32)), .val (.long v8), .second, .val (.long v17), .second, .val (.long v26), .second, .unset, .unset, .unset, .unset, .unset, .unset, .unset, .unset, .unset, .unset, .unset]) (hb hby at_27) rfl rfl ?_
    refine g_lload X0 hx (hb hby at_29) rfl rfl ?_
    refine g_l2i X0 hx (hb hby at_31) rfl rfl ?_
    refine g_i2s X0 hx (hb hby at_32) rfl rfl ?_
    obtain ⟨v33, hv33⟩ : ∃ r, (((p3.toInt32).toInt16.toInt32).toInt64) = r := ⟨_, rfl⟩
    refine g_i2l X0 hx (hb hby at_33) rfl hv33 ?_
    refine g_lstore X0 hx (Ls' := #[.val (.int p0), .val (.int p1), .val (.long p2), .second, .val (.long p3), .second, .val (.int (2 : Int32)), .val (.long v8), .second, .val (.long v17), .second, .val (.long v26), .second, .val (.long v33), .second, .unset, .unset, .unset, .unset, .unset, .unset, .unset, .unset, .unset]) (hb hby at_34) rfl rfl ?_
    refine g_lload X0 hx (hb hby at_36) rfl rfl ?_
    refine g_bipush X0 hx (r := (16 : Int32)) (hb hby at_38) rfl rfl ?_
    refine g_lushr X0 hx (hb hby at_40) rfl rfl ?_
    refine g_l2i X0 hx (hb hby at_41) rfl rfl ?_
    refine g_i2s X0 hx (hb hby at_42) rfl rfl ?_
    obtain ⟨v43, hv43⟩ : ∃ r, (((((p3.toUInt64 >>> ((16 : Int32) &&& 0x3f).toInt64.toUInt64).toInt64).toInt32).toInt16.toInt32).toInt64) = r := ⟨_, rfl⟩
    refine g_i2l X0 hx (hb hby at_43) rfl hv43 ?_
    refine g_lstore X0 hx (Ls' := #[.val (.int p0), .val (.int p1), .val (.long p2), .second, .val (.long p3), .second, .val (.int (2 : Int32)), .val (.long v8), .second, .val (.long v17), .second, .val (.long v26), .second, .val (.long v33), .second, .val (.long v43), .second, .unset, .unset, .unset, .unset, .unset, .unset, .unset]) (hb hby at_44) rfl rfl ?_
    refine g_lload X0 hx (hb hby at_46) rfl rfl ?_
    refine g_bipush X0 hx (r := (32 : Int32)) (hb hby at_48) rfl rfl ?_
    refine g_lushr X0 hx (hb hby at_50) rfl rfl ?_
    refine g_l2i X0 hx (hb hby at_51) rfl rfl ?_
    refine g_i2s X0 hx (hb hby at_52) rfl rfl ?_
    obtain ⟨v53, hv53⟩ : ∃ r, (((((p3.toUInt64 >>> ((32 : Int32) &&& 0x3f).toInt64.toUInt64).toInt64).toInt32).toInt16.toInt32).toInt64) = r := ⟨_, rfl⟩
    refine g_i2l X0 hx (hb hby at_53) rfl hv53 ?_
    refine g_lstore X0 hx (Ls' := #[.val (.int p0), .val (.int p1), .val (.long p2), .second, .val (.long p3), .second, .val (.int (2 : Int32)), .val (.long v8), .second, .val (.long v17), .second, .val (.long v26), .second, .val (.long v33), .second, .val (.long v43), .second, .val (.long v53), .second, .unset, .unset, .unset, .unset, .unset]) (hb hby at_54) rfl rfl ?_
    refine g_iloadN X0 hx (hb hby at_56) rfl rfl ?_
    obtain ⟨v57, hv57⟩ : ∃ r, (p1.toInt64) = r := ⟨_, rfl⟩
    refine g_i2l X0 hx (hb hby at_57) rfl hv57 ?_
    refine g_lstore X0 hx (Ls' := #[.val (.int p0), .val (.int p1), .val (.long p2), .second, .val (.long p3), .second, .val (.int (2 : Int32)), .val (.long v8), .second, .val (.long v17), .second, .val (.long v26), .second, .val (.long v33), .second, .val (.long v43), .second, .val (.long v53), .second, .val (.long v57), .second, .unset, .unset, .unset]) (hb hby at_58) rfl rfl ?_
    have xq0 := own_exp hv57 (own_sr hv8) (own_sr hv33)
    have xq1 := own_exp hv57 (own_sr hv17) (own_sr hv43)
    have xq2 := own_exp hv57 (own_sr hv26) (own_sr hv53)
    refine g_iload X0 hx (hb hby at_60) rfl rfl ?_
    refine g_newarray X0 hx hZ (aty := .double) (hw _ (List.mem_of_getElem? (i := 0) rfl)) e0 (by decide) 2 (by decide) (by decide) (by decide) (by decide) (ad := "[D") (by decide) (hb hby at_62) rfl fun T18 h18 b18 ka18 X18 e18 q18 E18 A18 V18 => ?_
    have g_b18 : n0 ≤ b18 := Nat.le_trans Z0 (Nat.le_of_eq q18.symm)
    have Z18 : n0 ≤ h18.size := Nat.le_trans Z0 E18.1
    have Vn18 : Arv Z h18 b18 ka18 .double (2 : Int32) [(.double (0 : UInt64)), (.double (0 : UInt64))] (.double (0 : UInt64)) := V18
    refine g_astore X18 hx (Ls' := #[.val (.int p0), .val (.int p1), .val (.long p2), .second, .val (.long p3), .second, .val (.int (2 : Int32)), .val (.long v8), .second, .val (.long v17), .second, .val (.long v26), .second, .val (.long v33), .second, .val (.long v43), .second, .val (.long v53), .second, .val (.long v57), .second, .val (.ref b18), .unset, .unset]) (hb hby at_64) rfl rfl rfl ?_
    refine g_iload X18 hx (hb hby at_66) rfl rfl ?_
    refine g_ifN X18 hx (hb hby at_68) rfl (XT.i0_le_f (by decide : (0 : Int32) < (2 : Int32))) ?_
    refine g_aload X18 hx (hb hby at_71) rfl rfl rfl ?_
    refine g_iconst X18 hx (r := (0 : Int32)) (hb hby at_73) rfl rfl ?_
    refine g_lload X18 hx (hb hby at_74) rfl rfl ?_
    refine g_l2d X18 hx (hb hby at_76) rfl  ?_
    refine g_dastore X18 hx hZ e18 Vn18 ⟨by decide, by decide⟩ (Nat.le_of_ble_eq_true rfl) (hb hby at_77) rfl fun T19 h19 X19 e19 W19 V19 => ?_
    have Vn19 : Arv Z h19 b18 ka18 .double (2 : Int32) [(.double (FP.l2d v8)), (.double (0 : UInt64))] (.double (0 : UInt64)) := V19
    have N19 := Fr.snoc X19 N0 g_b18
    have Z19 : n0 ≤ h19.size := by rw [W19.size]; exact Z18
    refine g_iload X19 hx (hb hby at_78) rfl rfl ?_
    refine g_iconst X19 hx (r := (1 : Int32)) (hb hby at_80) rfl rfl ?_
    refine g_icmpN X19 hx (hb hby at_81) rfl (XT.ii_le_f (by decide : (1 : Int32) < (2 : Int32))) ?_
    refine g_aload X19 hx (hb hby at_84) rfl rfl rfl ?_
    refine g_iconst X19 hx (r := (1 : Int32)) (hb hby at_86) rfl rfl ?_
    refine g_lload X19 hx (hb hby at_87) rfl rfl ?_
    refine g_l2d X19 hx (hb hby at_89) rfl  ?_
    refine g_dastore X19 hx hZ e19 Vn19 ⟨by decide, by decide⟩ (Nat.le_of_ble_eq_true rfl) (hb hby at_90) rfl fun T20 h20 X20 e20 W20 V20 => ?_
    have Vn20 : Arv Z h20 b18 ka18 .double (2 : Int32) [(.double (FP.l2d v8)), (.double (FP.l2d v17))] (.double (0 : UInt64)) := V20
    have N20 := Fr.snoc X20 N19 g_b18
    have Z20 : n0 ≤ h20.size := by rw [W20.size]; exact Z19
    refine g_iload X20 hx (hb hby at_91) rfl rfl ?_
    refine g_iconst X20 hx (r := (2 : Int32)) (hb hby at_93) rfl rfl ?_
    refine g_icmpY X20 hx (q := 104) (hb hby at_94) (XT.ii_le_t (by decide : ¬ (2 : Int32) < (2 : Int32))) (by decide) (by decide) ?_
    refine g_iconst X20 hx (r := (3 : Int32)) (hb hby at_104) rfl rfl ?_
    refine g_newarray X20 hx hZ (aty := .double) (hw _ (List.mem_of_getElem? (i := 0) rfl)) e20 (by decide) 3 (by decide) (by decide) (by decide) (by decide) (ad := "[D") (by decide) (hb hby at_105) rfl fun T21 h21 b21 ka21 X21 e21 q21 E21 A21 V21 => ?_
    have ne_b18_b21 : b18 ≠ b21 := own_ne Vn20.lt q21
    have g_b21 : n0 ≤ b21 := Nat.le_trans Z20 (Nat.le_of_eq q21.symm)
    have Z21 : n0 ≤ h21.size := Nat.le_trans Z20 E21.1
    have Vn21 : Arv Z h21 b21 ka21 .double (3 : Int32) [(.double (0 : UInt64)), (.double (0 : UInt64)), (.double (0 : UInt64))] (.double (0 : UInt64)) := V21
    refine g_astore X21 hx (Ls' := #[.val (.int p0), .val (.int p1), .val (.long p2), .second, .val (.long p3), .second, .val (.int (2 : Int32)), .val (.long v8), .second, .val (.long v17), .second, .val (.long v26), .second, .val (.long v33), .second, .val (.long v43), .second, .val (.long v53), .second, .val (.long v57), .second, .val (.ref b18), .val (.ref b21), .unset]) (hb hby at_107) rfl rfl rfl ?_
    refine g_aload X21 hx (hb hby at_109) rfl rfl rfl ?_
    refine g_iconst X21 hx (r := (0 : Int32)) (hb hby at_111) rfl rfl ?_
    refine g_lload X21 hx (hb hby at_112) rfl rfl ?_
    refine g_l2d X21 hx (hb hby at_114) rfl  ?_
    refine g_dastore X21 hx hZ e21 Vn21 ⟨by decide, by decide⟩ (Nat.le_of_ble_eq_true rfl) (hb hby at_115) rfl fun T22 h22 X22 e22 W22 V22 => ?_
    have Vn22 : Arv Z h22 b21 ka21 .double (3 : Int32) [(.double (FP.l2d v33)), (.double (0 : UInt64)), (.double (0 : UInt64))] (.double (0 : UInt64)) := V22
    have N22 := Fr.snoc X22 N20 g_b21
    have Z22 : n0 ≤ h22.size := by rw [W22.size]; exact Z21
    refine g_aload X22 hx (hb hby at_116) rfl rfl rfl ?_
    refine g_iconst X22 hx (r := (1 : Int32)) (hb hby at_118) rfl rfl ?_
    refine g_lload X22 hx (hb hby at_119) rfl rfl ?_
    refine g_l2d X22 hx (hb hby at_121) rfl  ?_
    refine g_dastore X22 hx hZ e22 Vn22 ⟨by decide, by decide⟩ (Nat.le_of_ble_eq_true rfl) (hb hby at_122) rfl fun T23 h23 X23 e23 W23 V23 => ?_
    have Vn23 : Arv Z h23 b21 ka21 .double (3 : Int32) [(.double (FP.l2d v33)), (.double (FP.l2d v43)), (.double (0 : UInt64))] (.double (0 : UInt64)) := V23
    have N23 := Fr.snoc X23 N22 g_b21
    have Z23 : n0 ≤ h23.size := by rw [W23.size]; exact Z22
    refine g_aload X23 hx (hb hby at_123) rfl rfl rfl ?_
    refine g_iconst X23 hx (r := (2 : Int32)) (hb hby at_125) rfl rfl ?_
    refine g_lload X23 hx (hb hby at_126) rfl rfl ?_
    refine g_l2d X23 hx (hb hby at_128) rfl  ?_
    refine g_dastore X23 hx hZ e23 Vn23 ⟨by decide, by decide⟩ (Nat.le_of_ble_eq_true rfl) (hb hby at_129) rfl fun T24 h24 X24 e24 W24 V24 => ?_
    have Vn24 : Arv Z h24 b21 ka21 .double (3 : Int32) [(.double (FP.l2d v33)), (.double (FP.l2d v43)), (.double (FP.l2d v53))] (.double (0 : UInt64)) := V24
    have N24 := Fr.snoc X24 N23 g_b21
    have Z24 : n0 ≤ h24.size := by rw [W24.size]; exact Z23
    refine g_aload X24 hx (hb hby at_130) rfl rfl rfl ?_
    refine g_iloadN X24 hx (hb hby at_132) rfl rfl ?_
    refine g_i2d X24 hx (hb hby at_133) rfl  ?_
    refine g_aload X24 hx (hb hby at_134) rfl rfl rfl ?_
    have f26 : Arv Z h24 b18 ka18 .double (2 : Int32) [(.double (FP.l2d v8)), (.double (FP.l2d v17))] (.double (0 : UInt64)) := ((((Vn20.ext E21).other W22 ne_b18_b21).other W23 ne_b18_b21).other W24 ne_b18_b21)
    refine g_static X24 hx hZ hown (hw _ (List.mem_of_getElem? (i := 1) rfl)) (hw _ (List.mem_of_getElem? (i := 2) rfl)) (hw _ (List.mem_of_getElem? (i := 3) rfl)) (hw _ (List.mem_of_getElem? (i := 4) rfl)) (by decide) (rm_add2 l Z a0 hw b18 ka18 b21 ka21 (FP.i2d p1) (FP.l2d v8) (FP.l2d v17) (FP.l2d v33) (FP.l2d v43) (FP.l2d v53) h24 n0 Z24 f26 Vn24 g_b18 ne_b18_b21 xq0.1 xq0.2.1 xq1.1 xq1.2.1) (by rw [hml]; rfl) e24 [(.ref b18), (.double (FP.i2d p1)), (.ref b21)] rfl rfl (W := 0) (Nat.le_of_eq rfl) (by decide) (by decide) (by decide) (by decide) (lenOf pd_0 rfl) (hb hby at_136) rfl fun v25 T25 L25 X25 hQ25 => ?_
    obtain ⟨rfl, Nq25, kc25, p25_0⟩ := hQ25
    have N25 := Fr.app N24 Nq25
    have Z25 : n0 ≤ T25.heap.size := Nat.le_trans Z24 kc25.1
    have pv25_0 : Arv Z T25.heap b18 ka18 .double (2 : Int32) [(.double (FP.dadd (FP.l2d v8) (FP.dmul (FP.i2d p1) (FP.l2d v33)))), (.double (FP.dadd (FP.l2d v17) (FP.dmul (FP.i2d p1) (FP.l2d v43))))] (.double (0 : UInt64)) := p25_0
    show Ga _ _ _ _ _ _ _ _ _ _ _ []
    refine g_aload X25 hx (hb hby at_139) rfl rfl rfl ?_
    refine g_len X25 hx hZ rfl pv25_0 (hb hby at_141) rfl ?_
    refine g_iload X25 hx (hb hby at_142) rfl rfl ?_
    refine g_icmpN X25 hx (hb hby at_144) rfl (XT.ii_ne_f (by decide : (2 : Int32) = (2 : Int32))) ?_
    refine g_iconst X25 hx (r := (1 : Int32)) (hb hby at_147) rfl rfl ?_
    refine g_goto X25 hx (q := 152) (hb hby at_148) (by decide) (by decide) ?_
    refine g_istore X25 hx (Ls' := #[.val (.int p0), .val (.int p1), .val (.long p2), .second, .val (.long p3), .second, .val (.int (2 : Int32)), .val (.long v8), .second, .val (.long v17), .second, .val (.long v26), .second, .val (.long v33), .second, .val (.long v43), .second, .val (.long v53), .second, .val (.long v57), .second, .val (.ref b18), .val (.ref b21), .val (.int (1 : Int32))]) (hb hby at_152) rfl rfl ?_
    refine g_iload X25 hx (hb hby at_154) rfl rfl ?_
    refine g_ifN X25 hx (hb hby at_156) rfl (XT.i0_le_f (by decide : (0 : Int32) < (2 : Int32))) ?_
    refine g_iload X25 hx (hb hby at_159) rfl rfl ?_
    refine g_ifN X25 hx (hb hby at_161) rfl (XT.i0_eq_f (by decide : ¬ (1 : Int32) = (0 : Int32))) ?_
    refine g_aload X25 hx (hb hby at_164) rfl rfl rfl ?_
    refine g_iconst X25 hx (r := (0 : Int32)) (hb hby at_166) rfl rfl ?_
    refine g_daload X25 hx hZ rfl pv25_0 (v := (.double (FP.dadd (FP.l2d v8) (FP.dmul (FP.i2d p1) (FP.l2d v33))))) ⟨by decide, by decide⟩ rfl (hb hby at_167) rfl ?_
    refine g_lload X25 hx (hb hby at_168) rfl rfl ?_
    refine g_lload X25 hx (hb hby at_170) rfl rfl ?_
    refine g_lload X25 hx (hb hby at_172) rfl rfl ?_
    refine g_lmul X25 hx (hb hby at_174) rfl rfl ?_
    refine g_ladd X25 hx (hb hby at_175) rfl rfl ?_
    refine g_l2d X25 hx (hb hby at_176) rfl  ?_
    refine g_dcmp X25 hx (hb hby at_177) rfl  ?_
    have hc178 : (cmpValue (FP.dcmp (FP.dadd (FP.l2d v8) (FP.dmul (FP.i2d p1) (FP.l2d v33))) (FP.l2d (v8 + (v57 * v33)))) .l) = (0 : Int32) := xq0.2.2
    refine g_ifN X25 hx (hb hby at_178) rfl (XT.i0_ne_f hc178) ?_
    refine g_iconst X25 hx (r := (1 : Int32)) (hb hby at_181) rfl rfl ?_
    refine g_goto X25 hx (q := 186) (hb hby at_182) (by decide) (by decide) ?_
    refine g_istore X25 hx (Ls' := #[.val (.int p0), .val (.int p1), .val (.long p2), .second, .val (.long p3), .second, .val (.int (2 : Int32)), .val (.long v8), .second, .val (.long v17), .second, .val (.long v26), .second, .val (.long v33), .second, .val (.long v43), .second, .val (.long v53), .second, .val (.long v57), .second, .val (.ref b18), .val (.ref b21), .val (.int (1 : Int32))]) (hb hby at_186) rfl rfl ?_
    refine g_iload X25 hx (hb hby at_188) rfl rfl ?_
    refine g_iconst X25 hx (r := (1 : Int32)) (hb hby at_190) rfl rfl ?_
    refine g_icmpN X25 hx (hb hby at_191) rfl (XT.ii_le_f (by decide : (1 : Int32) < (2 : Int32))) ?_
    refine g_iload X25 hx (hb hby at_194) rfl rfl ?_
    refine g_ifN X25 hx (hb hby at_196) rfl (XT.i0_eq_f (by decide : ¬ (1 : Int32) = (0 : Int32))) ?_
    refine g_aload X25 hx (hb hby at_199) rfl rfl rfl ?_
    refine g_iconst X25 hx (r := (1 : Int32)) (hb hby at_201) rfl rfl ?_
    refine g_daload X25 hx hZ rfl pv25_0 (v := (.double (FP.dadd (FP.l2d v17) (FP.dmul (FP.i2d p1) (FP.l2d v43))))) ⟨by decide, by decide⟩ rfl (hb hby at_202) rfl ?_
    refine g_lload X25 hx (hb hby at_203) rfl rfl ?_
    refine g_lload X25 hx (hb hby at_205) rfl rfl ?_
    refine g_lload X25 hx (hb hby at_207) rfl rfl ?_
    refine g_lmul X25 hx (hb hby at_209) rfl rfl ?_
    refine g_ladd X25 hx (hb hby at_210) rfl rfl ?_
    refine g_l2d X25 hx (hb hby at_211) rfl  ?_
    refine g_dcmp X25 hx (hb hby at_212) rfl  ?_
    have hc213 : (cmpValue (FP.dcmp (FP.dadd (FP.l2d v17) (FP.dmul (FP.i2d p1) (FP.l2d v43))) (FP.l2d (v17 + (v57 * v43)))) .l) = (0 : Int32) := xq1.2.2
    refine g_ifN X25 hx (hb hby at_213) rfl (XT.i0_ne_f hc213) ?_
    refine g_iconst X25 hx (r := (1 : Int32)) (hb hby at_216) rfl rfl ?_
    refine g_goto X25 hx (q := 221) (hb hby at_217) (by decide) (by decide) ?_
    refine g_istore X25 hx (Ls' := #[.val (.int p0), .val (.int p1), .val (.long p2), .second, .val (.long p3), .second, .val (.int (2 : Int32)), .val (.long v8), .second, .val (.long v17), .second, .val (.long v26), .second, .val (.long v33), .second, .val (.long v43), .second, .val (.long v53), .second, .val (.long v57), .second, .val (.ref b18), .val (.ref b21), .val (.int (1 : Int32))]) (hb hby at_221) rfl rfl ?_
    refine g_iload X25 hx (hb hby at_223) rfl rfl ?_
    refine g_iconst X25 hx (r := (2 : Int32)) (hb hby at_225) rfl rfl ?_
    refine g_icmpY X25 hx (q := 258) (hb hby at_226) (XT.ii_le_t (by decide : ¬ (2 : Int32) < (2 : Int32))) (by decide) (by decide) ?_
    refine g_iload X25 hx (hb hby at_258) rfl rfl ?_
    refine g_ifN X25 hx (hb hby at_260) rfl (XT.i0_eq_f (by decide : ¬ (1 : Int32) = (0 : Int32))) ?_
    refine g_aload X25 hx (hb hby at_263) rfl rfl rfl ?_
    refine g_iconst X25 hx (r := (0 : Int32)) (hb hby at_265) rfl rfl ?_
    have f27 : Arv Z T25.heap b21 ka21 .double (3 : Int32) [(.double (FP.l2d v33)), (.double (FP.l2d v43)), (.double (FP.l2d v53))] (.double (0 : UInt64)) := (Vn24.keep kc25 (ninS (Ne.symm ne_b18_b21) nin0))
    refine g_daload X25 hx hZ rfl f27 (v := (.double (FP.l2d v33))) ⟨by decide, by decide⟩ rfl (hb hby at_266) rfl ?_
    refine g_lload X25 hx (hb hby at_267) rfl rfl ?_
    refine g_l2d X25 hx (hb hby at_269) rfl  ?_
    refine g_dcmp X25 hx (hb hby at_270) rfl  ?_
    have hc271 : (cmpValue (FP.dcmp (FP.l2d v33) (FP.l2d v33)) .l) = (0 : Int32) := (dcmpV_self (nn_w rfl) _)
    refine g_ifN X25 hx (hb hby at_271) rfl (XT.i0_ne_f hc271) ?_
    refine g_aload X25 hx (hb hby at_274) rfl rfl rfl ?_
    refine g_iconst X25 hx (r := (1 : Int32)) (hb hby at_276) rfl rfl ?_
    refine g_daload X25 hx hZ rfl f27 (v := (.double (FP.l2d v43))) ⟨by decide, by decide⟩ rfl (hb hby at_277) rfl ?_
    refine g_lload X25 hx (hb hby at_278) rfl rfl ?_
    refine g_l2d X25 hx (hb hby at_280) rfl  ?_
    refine g_dcmp X25 hx (hb hby at_281) rfl  ?_
    have hc282 : (cmpValue (FP.dcmp (FP.l2d v43) (FP.l2d v43)) .l) = (0 : Int32) := (dcmpV_self (nn_w rfl) _)
    refine g_ifN X25 hx (hb hby at_282) rfl (XT.i0_ne_f hc282) ?_
    refine g_aload X25 hx (hb hby at_285) rfl rfl rfl ?_
    refine g_iconst X25 hx (r := (2 : Int32)) (hb hby at_287) rfl rfl ?_
    refine g_daload X25 hx hZ rfl f27 (v := (.double (FP.l2d v53))) ⟨by decide, by decide⟩ rfl (hb hby at_288) rfl ?_
    refine g_lload X25 hx (hb hby at_289) rfl rfl ?_
    refine g_l2d X25 hx (hb hby at_291) rfl  ?_
    refine g_dcmp X25 hx (hb hby at_292) rfl  ?_
    have hc293 : (cmpValue (FP.dcmp (FP.l2d v53) (FP.l2d v53)) .l) = (0 : Int32) := (dcmpV_self (nn_w rfl) _)
    refine g_ifN X25 hx (hb hby at_293) rfl (XT.i0_ne_f hc293) ?_
    refine g_iconst X25 hx (r := (1 : Int32)) (hb hby at_296) rfl rfl ?_
    refine g_goto X25 hx (q := 301) (hb hby at_297) (by decide) (by decide) ?_
    refine g_istore X25 hx (Ls' := #[.val (.int p0), .val (.int p1), .val (.long p2), .second, .val (.long p3), .second, .val (.int (2 : Int32)), .val (.long v8), .second, .val (.long v17), .second, .val (.long v26), .second, .val (.long v33), .second, .val (.long v43), .second, .val (.long v53), .second, .val (.long v57), .second, .val (.ref b18), .val (.ref b21), .val (.int (1 : Int32))]) (hb hby at_301) rfl rfl ?_
    refine g_iload X25 hx (hb hby at_303) rfl rfl ?_
    exact g_retN X25 hx (t := .boolean) (r := (1 : Int32)) hret (by simp) hlk (hb hby at_305) rfl (by decide) (by decide) ⟨rfl, N25⟩
  · skip
    refine g_lloadN X0 hx (hb hby at_5) rfl rfl ?_
    refine g_l2i X0 hx (hb hby at_6) rfl rfl ?_
    refine g_i2s X0 hx (hb hby at_7) rfl rfl ?_
    obtain ⟨v8, hv8⟩ : ∃ r, (((p2.toInt32).toInt16.toInt32).toInt64) = r := ⟨_, rfl⟩
    refine g_i2l X0 hx (hb hby at_8) rfl hv8 ?_
    refine g_lstore X0 hx (Ls' := #[.val (.int p0), .val (.int p1), .val (.long p2), .second, .val (.long p3), .second, .val (.int (3 : Int32)), .val (.long v8), .second, .unset, .unset, .unset, .unset, .unset, .unset, .unset, .unset, .unset, .unset, .unset, .unset, .unset, .unset, .unset]) (hb hby at_9) rfl rfl ?_
    refine g_lloadN X0 hx (hb hby at_11) rfl rfl ?_
    refine g_bipush X0 hx (r := (16 : Int32)) (hb hby at_12) rfl rfl ?_
    refine g_lushr X0 hx (hb hby at_14) rfl rfl ?_
    refine g_l2i X0 hx (hb hby at_15) rfl rfl ?_
    refine g_i2s X0 hx (hb hby at_16) rfl rfl ?_
    obtain ⟨v17, hv17⟩ : ∃ r, (((((p2.toUInt64 >>> ((16 : Int32) &&& 0x3f).toInt64.toUInt64).toInt64).toInt32).toInt16.toInt32).toInt64) = r := ⟨_, rfl⟩
    refine g_i2l X0 hx (hb hby at_17) rfl hv17 ?_
    refine g_lstore X0 hx (Ls' := #[.val (.int p0), .val (.int p1), .val (.long p2), .second, .val (.long p3), .second, .val (.int (3 : Int32)), .val (.long v8), .second, .val (.long v17), .second, .unset, .unset, .unset, .unset, .unset, .unset, .unset, .unset, .unset, .unset, .unset, .unset, .unset]) (hb hby at_18) rfl rfl ?_
    refine g_lloadN X0 hx (hb hby at_20) rfl rfl ?_
    refine g_bipush X0 hx (r := (32 : Int32)) (hb hby at_21) rfl rfl ?_
    refine g_lushr X0 hx (hb hby at_23) rfl rfl ?_
    refine g_l2i X0 hx (hb hby at_24) rfl rfl ?_
    refine g_i2s X0 hx (hb hby at_25) rfl rfl ?_
    obtain ⟨v26, hv26⟩ : ∃ r, (((((p2.toUInt64 >>> ((32 : Int32) &&& 0x3f).toInt64.toUInt64).toInt64).toInt32).toInt16.toInt32).toInt64) = r := ⟨_, rfl⟩
    refine g_i2l X0 hx (hb hby at_26) rfl hv26 ?_
    refine g_lstore X0 hx (Ls' := #[.val (.int p0), .val (.int p1), .val (.long p2), .second, .val (.long p3), .second, .val (.int (3 : Int32)), .val (.long v8), .second, .val (.long v17), .second, .val (.long v26), .second, .unset, .unset, .unset, .unset, .unset, .unset, .unset, .unset, .unset, .unset, .unset]) (hb hby at_27) rfl rfl ?_
    refine g_lload X0 hx (hb hby at_29) rfl rfl ?_
    refine g_l2i X0 hx (hb hby at_31) rfl rfl ?_
    refine g_i2s X0 hx (hb hby at_32) rfl rfl ?_
    obtain ⟨v33, hv33⟩ : ∃ r, (((p3.toInt32).toInt16.toInt32).toInt64) = r := ⟨_, rfl⟩
    refine g_i2l X0 hx (hb hby at_33) rfl hv33 ?_
    refine g_lstore X0 hx (Ls' := #[.val (.int p0), .val (.int p1), .val (.long p2), .second, .val (.long p3), .second, .val (.int (3 : Int32)), .val (.long v8), .second, .val (.long v17), .second, .val (.long v26), .second, .val (.long v33), .second, .unset, .unset, .unset, .unset, .unset, .unset, .unset, .unset, .unset]) (hb hby at_34) rfl rfl ?_
    refine g_lload X0 hx (hb hby at_36) rfl rfl ?_
    refine g_bipush X0 hx (r := (16 : Int32)) (hb hby at_38) rfl rfl ?_
    refine g_lushr X0 hx (hb hby at_40) rfl rfl ?_
    refine g_l2i X0 hx (hb hby at_41) rfl rfl ?_
    refine g_i2s X0 hx (hb hby at_42) rfl rfl ?_
    obtain ⟨v43, hv43⟩ : ∃ r, (((((p3.toUInt64 >>> ((16 : Int32) &&& 0x3f).toInt64.toUInt64).toInt64).toInt32).toInt16.toInt32).toInt64) = r := ⟨_, rfl⟩
    refine g_i2l X0 hx (hb hby at_43) rfl hv43 ?_
    refine g_lstore X0 hx (Ls' := #[.val (.int p0), .val (.int p1), .val (.long p2), .second, .val (.long p3), .second, .val (.int (3 : Int32)), .val (.long v8), .second, .val (.long v17), .second, .val (.long v26), .second, .val (.long v33), .second, .val (.long v43), .second, .unset, .unset, .unset, .unset, .unset, .unset, .unset]) (hb hby at_44) rfl rfl ?_
    refine g_lload X0 hx (hb hby at_46) rfl rfl ?_
    refine g_bipush X0 hx (r := (32 : Int32)) (hb hby at_48) rfl rfl ?_
    refine g_lushr X0 hx (hb hby at_50) rfl rfl ?_
    refine g_l2i X0 hx (hb hby at_51) rfl rfl ?_
    refine g_i2s X0 hx (hb hby at_52) rfl rfl ?_
    obtain ⟨v53, hv53⟩ : ∃ r, (((((p3.toUInt64 >>> ((32 : Int32) &&& 0x3f).toInt64.toUInt64).toInt64).toInt32).toInt16.toInt32).toInt64) = r := ⟨_, rfl⟩
    refine g_i2l X0 hx (hb hby at_53) rfl hv53 ?_
    refine g_lstore X0 hx (Ls' := #[.val (.int p0), .val (.int p1), .val (.long p2), .second, .val (.long p3), .second, .val (.int (3 : Int32)), .val (.long v8), .second, .val (.long v17), .second, .val (.long v26), .second, .val (.long v33), .second, .val (.long v43), .second, .val (.long v53), .second, .unset, .unset, .unset, .unset, .unset]) (hb hby at_54) rfl rfl ?_
    refine g_iloadN X0 hx (hb hby at_56) rfl rfl ?_
    obtain ⟨v57, hv57⟩ : ∃ r, (p1.toInt64) = r := ⟨_, rfl⟩
    refine g_i2l X0 hx (hb hby at_57) rfl hv57 ?_
    refine g_lstore X0 hx (Ls' := #[.val (.int p0), .val (.int p1), .val (.long p2), .second, .val (.long p3), .second, .val (.int (3 : Int32)), .val (.long v8), .second, .val (.long v17), .second, .val (.long v26), .second, .val (.long v33), .second, .val (.long v43), .second, .val (.long v53), .second, .val (.long v57), .second, .unset, .unset, .unset]) (hb hby at_58) rfl rfl ?_
    have xq0 := own_exp hv57 (own_sr hv8) (own_sr hv33)
    have xq1 := own_exp hv57 (own_sr hv17) (own_sr hv43)
    have xq2 := own_exp hv57 (own_sr hv26) (own_sr hv53)
    refine g_iload X0 hx (hb hby at_60) rfl rfl ?_
    refine g_newarray X0 hx hZ (aty := .double) (hw _ (List.mem_of_getElem? (i := 0) rfl)) e0 (by decide) 3 (by decide) (by decide) (by decide) (by decide) (ad := "[D") (by decide) (hb hby at_62) rfl fun T28 h28 b28 ka28 X28 e28 q28 E28 A28 V28 => ?_
    have g_b28 : n0 ≤ b28 := Nat.le_trans Z0 (Nat.le_of_eq q28.symm)
    have Z28 : n0 ≤ h28.size := Nat.le_trans Z0 E28.1
    have Vn28 : Arv Z h28 b28 ka28 .double (3 : Int32) [(.double (0 : UInt64)), (.double (0 : UInt64)), (.double (0 : UInt64))] (.double (0 : UInt64)) := V28
    refine g_astore X28 hx (Ls' := #[.val (.int p0), .val (.int p1), .val (.long p2), .second, .val (.long p3), .second, .val (.int (3 : Int32)), .val (.long v8), .second, .val (.long v17), .second, .val (.long v26), .second, .val (.long v33), .second, .val (.long v43), .second, .val (.long v53), .second, .val (.long v57), .second, .val (.ref b28), .unset, .unset]) (hb hby at_64) rfl rfl rfl ?_
    refine g_iload X28 hx (hb hby at_66) rfl rfl ?_
    refine g_ifN X28 hx (hb hby at_68) rfl (XT.i0_le_f (by decide : (0 : Int32) < (3 : Int32))) ?_
    refine g_aload X28 hx (hb hby at_71) rfl rfl rfl ?_
    refine g_iconst X28 hx (r := (0 : Int32)) (hb hby at_73) rfl rfl ?_
    refine g_lload X28 hx (hb hby at_74) rfl rfl ?_
    refine g_l2d X28 hx (hb hby at_76) rfl  ?_
    refine g_dastore X28 hx hZ e28 Vn28 ⟨by decide, by decide⟩ (Nat.le_of_ble_eq_true rfl) (hb hby at_77) rfl fun T29 h29 X29 e29 W29 V29 => ?_
    have Vn29 : Arv Z h29 b28 ka28 .double (3 : Int32) [(.double (FP.l2d v8)), (.double (0 : UInt64)), (.double (0 : UInt64))] (.double (0 : UInt64)) := V29
    have N29 := Fr.snoc X29 N0 g_b28
    have Z29 : n0 ≤ h29.size := by rw [W29.size]; exact Z28
    refine g_iload X29 hx (hb hby at_78) rfl rfl ?_
    refine g_iconst X29 hx (r := (1 : Int32)) (hb hby at_80) rfl rfl ?_
    refine g_icmpN X29 hx (hb hby at_81) rfl (XT.ii_le_f (by decide : (1 : Int32) < (3 : Int32))) ?_
    refine g_aload X29 hx (hb hby at_84) rfl rfl rfl ?_
    refine g_iconst X29 hx (r := (1 : Int32)) (hb hby at_86) rfl rfl ?_
    refine g_lload X29 hx (hb hby at_87) rfl rfl ?_
    refine g_l2d X29 hx (hb hby at_89) rfl  ?_
    refine g_dastore X29 hx hZ e29 Vn29 ⟨by decide, by decide⟩ (Nat.le_of_ble_eq_true rfl) (hb hby at_90) rfl fun T30 h30 X30 e30 W30 V30 => ?_
    have Vn30 : Arv Z h30 b28 ka28 .double (3 : Int32) [(.double (FP.l2d v8)), (.double (FP.l2d v17)), (.double (0 : UInt64))] (.double (0 : UInt64)) := V30
    have N30 := Fr.snoc X30 N29 g_b28
    have Z30 : n0 ≤ h30.size := by rw [W30.size]; exact Z29
    refine g_iload X30 hx (hb hby at_91) rfl rfl ?_
    refine g_iconst X30 hx (r := (2 : Int32)) (hb hby at_93) rfl rfl ?_
    refine g_icmpN X30 hx (hb hby at_94) rfl (XT.ii_le_f (by decide : (2 : Int32) < (3 : Int32))) ?_
    refine g_aload X30 hx (hb hby at_97) rfl rfl rfl ?_
    refine g_iconst X30 hx (r := (2 : Int32)) (hb hby at_99) rfl rfl ?_
    refine g_lload X30 hx (hb hby at_100) rfl rfl ?_
    refine g_l2d X30 hx (hb hby at_102) rfl  ?_
    refine g_dastore X30 hx hZ e30 Vn30 ⟨by decide, by decide⟩ (Nat.le_of_ble_eq_true rfl) (hb hby at_103) rfl fun T31 h31 X31 e31 W31 V31 => ?_
    have Vn31 : Arv Z h31 b28 ka28 .double (3 : Int32) [(.double (FP.l2d v8)), (.double (FP.l2d v17)), (.double (FP.l2d v26))] (.double (0 : UInt64)) := V31
    have N31 := Fr.snoc X31 N30 g_b28
    have Z31 : n0 ≤ h31.size := by rw [W31.size]; exact Z30
    refine g_iconst X31 hx (r := (3 : Int32)) (hb hby at_104) rfl rfl ?_
    refine g_newarray X31 hx hZ (aty := .double) (hw _ (List.mem_of_getElem? (i := 0) rfl)) e31 (by decide) 3 (by decide) (by decide) (by decide) (by decide) (ad := "[D") (by decide) (hb hby at_105) rfl fun T32 h32 b32 ka32 X32 e32 q32 E32 A32 V32 => ?_
    have ne_b28_b32 : b28 ≠ b32 := own_ne Vn31.lt q32
    have g_b32 : n0 ≤ b32 := Nat.le_trans Z31 (Nat.le_of_eq q32.symm)
    have Z32 : n0 ≤ h32.size := Nat.le_trans Z31 E32.1
    have Vn32 : Arv Z h32 b32 ka32 .double (3 : Int32) [(.double (0 : UInt64)), (.double (0 : UInt64)), (.double (0 : UInt64))] (.double (0 : UInt64)) := V32
    refine g_astore X32 hx (Ls' := #[.val (.int p0), .val (.int p1), .val (.long p2), .second, .val (.long p3), .second, .val (.int (3 : Int32)), .val (.long v8), .second, .val (.long v17), .second, .val (.long v26), .second, .val (.long v33), .second, .val (.long v43), .second, .val (.long v53), .second, .val (.long v57), .second, .val (.ref b28), .val (.ref b32), .unset]) (hb hby at_107) rfl rfl rfl ?_
    refine g_aload X32 hx (hb hby at_109) rfl rfl rfl ?_
    refine g_iconst X32 hx (r := (0 : Int32)) (hb hby at_111) rfl rfl ?_
    refine g_lload X32 hx (hb hby at_112) rfl rfl ?_
    refine g_l2d X32 hx (hb hby at_114) rfl  ?_
    refine g_dastore X32 hx hZ e32 Vn32 ⟨by decide, by decide⟩ (Nat.le_of_ble_eq_true rfl) (hb hby at_115) rfl fun T33 h33 X33 e33 W33 V33 => ?_
    have Vn33 : Arv Z h33 b32 ka32 .double (3 : Int32) [(.double (FP.l2d v33)), (.double (0 : UInt64)), (.double (0 : UInt64))] (.double (0 : UInt64)) := V33
    have N33 := Fr.snoc X33 N31 g_b32
    have Z33 : n0 ≤ h33.size := by rw [W33.size]; exact Z32
    refine g_aload X33 hx (hb hby at_116) rfl rfl rfl ?_
    refine g_iconst X33 hx (r := (1 : Int32)) (hb hby at_118) rfl rfl ?_
    refine g_lload X33 hx (hb hby at_119) rfl rfl ?_
    refine g_l2d X33 hx (hb hby at_121) rfl  ?_
    refine g_dastore X33 hx hZ e33 Vn33 ⟨by decide, by decide⟩ (Nat.le_of_ble_eq_true rfl) (hb hby at_122) rfl fun T34 h34 X34 e34 W34 V34 => ?_
    have Vn34 : Arv Z h34 b32 ka32 .double (3 : Int32) [(.double (FP.l2d v33)), (.double (FP.l2d v43)), (.double (0 : UInt64))] (.double (0 : UInt64)) := V34
    have N34 := Fr.snoc X34 N33 g_b32
    have Z34 : n0 ≤ h34.size := by rw [W34.size]; exact Z33
    refine g_aload X34 hx (hb hby at_123) rfl rfl rfl ?_
    refine g_iconst X34 hx (r := (2 : Int32)) (hb hby at_125) rfl rfl ?_
    refine g_lload X34 hx (hb hby at_126) rfl rfl ?_
    refine g_l2d X34 hx (hb hby at_128) rfl  ?_
    refine g_dastore X34 hx hZ e34 Vn34 ⟨by decide, by decide⟩ (Nat.le_of_ble_eq_true rfl) (hb hby at_129) rfl fun T35 h35 X35 e35 W35 V35 => ?_
    have Vn35 : Arv Z h35 b32 ka32 .double (3 : Int32) [(.double (FP.l2d v33)), (.double (FP.l2d v43)), (.double (FP.l2d v53))] (.double (0 : UInt64)) := V35
    have N35 := Fr.snoc X35 N34 g_b32
    have Z35 : n0 ≤ h35.size := by rw [W35.size]; exact Z34
    refine g_aload X35 hx (hb hby at_130) rfl rfl rfl ?_
    refine g_iloadN X35 hx (hb hby at_132) rfl rfl ?_
    refine g_i2d X35 hx (hb hby at_133) rfl  ?_
    refine g_aload X35 hx (hb hby at_134) rfl rfl rfl ?_
    have f37 : Arv Z h35 b28 ka28 .double (3 : Int32) [(.double (FP.l2d v8)), (.double (FP.l2d v17)), (.double (FP.l2d v26))] (.double (0 : UInt64)) := ((((Vn31.ext E32).other W33 ne_b28_b32).other W34 ne_b28_b32).other W35 ne_b28_b32)
    refine g_static X35 hx hZ hown (hw _ (List.mem_of_getElem? (i := 1) rfl)) (hw _ (List.mem_of_getElem? (i := 2) rfl)) (hw _ (List.mem_of_getElem? (i := 3) rfl)) (hw _ (List.mem_of_getElem? (i := 4) rfl)) (by decide) (rm_add3 l Z a0 hw b28 ka28 b32 ka32 (FP.i2d p1) (FP.l2d v8) (FP.l2d v17) (FP.l2d v26) (FP.l2d v33) (FP.l2d v43) (FP.l2d v53) h35 n0 Z35 f37 Vn35 g_b28 ne_b28_b32 xq0.1 xq0.2.1 xq1.1 xq1.2.1 xq2.1 xq2.2.1) (by rw [hml]; rfl) e35 [(.ref b28), (.double (FP.i2d p1)), (.ref b32)] rfl rfl (W := 0) (Nat.le_of_eq rfl) (by decide) (by decide) (by decide) (by decide) (lenOf pd_0 rfl) (hb hby at_136) rfl fun v36 T36 L36 X36 hQ36 => ?_
    obtain ⟨rfl, Nq36, kc36, p36_0⟩ := hQ36
    have N36 := Fr.app N35 Nq36
    have Z36 : n0 ≤ T36.heap.size := Nat.le_trans Z35 kc36.1
    have pv36_0 : Arv Z T36.heap b28 ka28 .double (3 : Int32) [(.double (FP.dadd (FP.l2d v8) (FP.dmul (FP.i2d p1) (FP.l2d v33)))), (.double (FP.dadd (FP.l2d v17) (FP.dmul (FP.i2d p1) (FP.l2d v43)))), (.double (FP.dadd (FP.l2d v26) (FP.dmul (FP.i2d p1) (FP.l2d v53))))] (.double (0 : UInt64)) := p36_0
    show Ga _ _ _ _ _ _ _ _ _ _ _ []
    refine g_aload X36 hx (hb hby at_139) rfl rfl rfl ?_
    refine g_len X36 hx hZ rfl pv36_0 (hb hby at_141) rfl ?_
    refine g_iload X36 hx (hb hby at_142) rfl rfl ?_
    refine g_icmpN X36 hx (hb hby at_144) rfl (XT.ii_ne_f (by decide : (3 : Int32) = (3 : Int32))) ?_
    refine g_iconst X36 hx (r := (1 : Int32)) (hb hby at_147) rfl rfl ?_
    refine g_goto X36 hx (q := 152) (hb hby at_148) (by decide) (by decide) ?_
    refine g_istore X36 hx (Ls' := #[.val (.int p0), .val (.int p1), .val (.long p2), .second, .val (.long p3), .second, .val (.int (3 : Int32)), .val (.long v8), .second, .val (.long v17), .second, .val (.long v26), .second, .val (.long v33), .second, .val (.long v43), .second, .val (.long v53), .second, .val (.long v57), .second, .val (.ref b28), .val (.ref b32), .val (.int (1 : Int32))]) (hb hby at_152) rfl rfl ?_
    refine g_iload X36 hx (hb hby at_154) rfl rfl ?_
    refine g_ifN X36 hx (hb hby at_156) rfl (XT.i0_le_f (by decide : (0 : Int32) < (3 : Int32))) ?_
    refine g_iload X36 hx (hb hby at_159) rfl rfl ?_
    refine g_ifN X36 hx (hb hby at_161) rfl (XT.i0_eq_f (by decide : ¬ (1 : Int32) = (0 : Int32))) ?_
    refine g_aload X36 hx (hb hby at_164) rfl rfl rfl ?_
    refine g_iconst X36 hx (r := (0 : Int32)) (hb hby at_166) rfl rfl ?_
    refine g_daload X36 hx hZ rfl pv36_0 (v := (.double (FP.dadd (FP.l2d v8) (FP.dmul (FP.i2d p1) (FP.l2d v33))))) ⟨by decide, by decide⟩ rfl (hb hby at_167) rfl ?_
    refine g_lload X36 hx (hb hby at_168) rfl rfl ?_
    refine g_lload X36 hx (hb hby at_170) rfl rfl ?_
    refine g_lload X36 hx (hb hby at_172) rfl rfl ?_
    refine g_lmul X36 hx (hb hby at_174) rfl rfl ?_
    refine g_ladd X36 hx (hb hby at_175) rfl rfl ?_
    refine g_l2d X36 hx (hb hby at_176) rfl  ?_
    refine g_dcmp X36 hx (hb hby at_177) rfl  ?_
    have hc178 : (cmpValue (FP.dcmp (FP.dadd (FP.l2d v8) (FP.dmul (FP.i2d p1) (FP.l2d v33))) (FP.l2d (v8 + (v57 * v33)))) .l) = (0 : Int32) := xq0.2.2
    refine g_ifN X36 hx (hb hby at_178) rfl (XT.i0_ne_f hc178) ?_
    refine g_iconst X36 hx (r := (1 : Int32)) (hb hby at_181) rfl rfl ?_
    refine g_goto X36 hx (q := 186) (hb hby at_182) (by decide) (by decide) ?_
    refine g_istore X36 hx (Ls' := #[.val (.int p0), .val (.int p1), .val (.long p2), .second, .val (.long p3), .second, .val (.int (3 : Int32)), .val (.long v8), .second, .val (.long v17), .second, .val (.long v26), .second, .val (.long v33), .second, .val (.long v43), .second, .val (.long v53), .second, .val (.long v57), .second, .val (.ref b28), .val (.ref b32), .val (.int (1 : Int32))]) (hb hby at_186) rfl rfl ?_
    refine g_iload X36 hx (hb hby at_188) rfl rfl ?_
    refine g_iconst X36 hx (r := (1 : Int32)) (hb hby at_190) rfl rfl ?_
    refine g_icmpN X36 hx (hb hby at_191) rfl (XT.ii_le_f (by decide : (1 : Int32) < (3 : Int32))) ?_
    refine g_iload X36 hx (hb hby at_194) rfl rfl ?_
    refine g_ifN X36 hx (hb hby at_196) rfl (XT.i0_eq_f (by decide : ¬ (1 : Int32) = (0 : Int32))) ?_
    refine g_aload X36 hx (hb hby at_199) rfl rfl rfl ?_
    refine g_iconst X36 hx (r := (1 : Int32)) (hb hby at_201) rfl rfl ?_
    refine g_daload X36 hx hZ rfl pv36_0 (v := (.double (FP.dadd (FP.l2d v17) (FP.dmul (FP.i2d p1) (FP.l2d v43))))) ⟨by decide, by decide⟩ rfl (hb hby at_202) rfl ?_
    refine g_lload X36 hx (hb hby at_203) rfl rfl ?_
    refine g_lload X36 hx (hb hby at_205) rfl rfl ?_
    refine g_lload X36 hx (hb hby at_207) rfl rfl ?_
    refine g_lmul X36 hx (hb hby at_209) rfl rfl ?_
    refine g_ladd X36 hx (hb hby at_210) rfl rfl ?_
    refine g_l2d X36 hx (hb hby at_211) rfl  ?_
    refine g_dcmp X36 hx (hb hby at_212) rfl  ?_
    have hc213 : (cmpValue (FP.dcmp (FP.dadd (FP.l2d v17) (FP.dmul (FP.i2d p1) (FP.l2d v43))) (FP.l2d (v17 + (v57 * v43)))) .l) = (0 : Int32) := xq1.2.2
    refine g_ifN X36 hx (hb hby at_213) rfl (XT.i0_ne_f hc213) ?_
    refine g_iconst X36 hx (r := (1 : Int32)) (hb hby at_216) rfl rfl ?_
    refine g_goto X36 hx (q := 221) (hb hby at_217) (by decide) (by decide) ?_
    refine g_istore X36 hx (Ls' := #[.val (.int p0), .val (.int p1), .val (.long p2), .second, .val (.long p3), .second, .val (.int (3 : Int32)), .val (.long v8), .second, .val (.long v17), .second, .val (.long v26), .second, .val (.long v33), .second, .val (.long v43), .second, .val (.long v53), .second, .val (.long v57), .second, .val (.ref b28), .val (.ref b32), .val (.int (1 : Int32))]) (hb hby at_221) rfl rfl ?_
    refine g_iload X36 hx (hb hby at_223) rfl rfl ?_
    refine g_iconst X36 hx (r := (2 : Int32)) (hb hby at_225) rfl rfl ?_
    refine g_icmpN X36 hx (hb hby at_226) rfl (XT.ii_le_f (by decide : (2 : Int32) < (3 : Int32))) ?_
    refine g_iload X36 hx (hb hby at_229) rfl rfl ?_
    refine g_ifN X36 hx (hb hby at_231) rfl (XT.i0_eq_f (by decide : ¬ (1 : Int32) = (0 : Int32))) ?_
    refine g_aload X36 hx (hb hby at_234) rfl rfl rfl ?_
    refine g_iconst X36 hx (r := (2 : Int32)) (hb hby at_236) rfl rfl ?_
    refine g_daload X36 hx hZ rfl pv36_0 (v := (.double (FP.dadd (FP.l2d v26) (FP.dmul (FP.i2d p1) (FP.l2d v53))))) ⟨by decide, by decide⟩ rfl (hb hby at_237) rfl ?_
    refine g_lload X36 hx (hb hby at_238) rfl rfl ?_
    refine g_lload X36 hx (hb hby at_240) rfl rfl ?_
    refine g_lload X36 hx (hb hby at_242) rfl rfl ?_
    refine g_lmul X36 hx (hb hby at_244) rfl rfl ?_
    refine g_ladd X36 hx (hb hby at_245) rfl rfl ?_
    refine g_l2d X36 hx (hb hby at_246) rfl  ?_
    refine g_dcmp X36 hx (hb hby at_247) rfl  ?_
    have hc248 : (cmpValue (FP.dcmp (FP.dadd (FP.l2d v26) (FP.dmul (FP.i2d p1) (FP.l2d v53))) (FP.l2d (v26 + (v57 * v53)))) .l) = (0 : Int32) := xq2.2.2
    refine g_ifN X36 hx (hb hby at_248) rfl (XT.i0_ne_f hc248) ?_
    refine g_iconst X36 hx (r := (1 : Int32)) (hb hby at_251) rfl rfl ?_
    refine g_goto X36 hx (q := 256) (hb hby at_252) (by decide) (by decide) ?_
    refine g_istore X36 hx (Ls' := #[.val (.int p0), .val (.int p1), .val (.long p2), .second, .val (.long p3), .second, .val (.int (3 : Int32)), .val (.long v8), .second, .val (.long v17), .second, .val (.long v26), .second, .val (.long v33), .second, .val (.long v43), .second, .val (.long v53), .second, .val (.long v57), .second, .val (.ref b28), .val (.ref b32), .val (.int (1 : Int32))]) (hb hby at_256) rfl rfl ?_
    refine g_iload X36 hx (hb hby at_258) rfl rfl ?_
    refine g_ifN X36 hx (hb hby at_260) rfl (XT.i0_eq_f (by decide : ¬ (1 : Int32) = (0 : Int32))) ?_
    refine g_aload X36 hx (hb hby at_263) rfl rfl rfl ?_
    refine g_iconst X36 hx (r := (0 : Int32)) (hb hby at_265) rfl rfl ?_
    have f38 : Arv Z T36.heap b32 ka32 .double (3 : Int32) [(.double (FP.l2d v33)), (.double (FP.l2d v43)), (.double (FP.l2d v53))] (.double (0 : UInt64)) := (Vn35.keep kc36 (ninS (Ne.symm ne_b28_b32) nin0))
    refine g_daload X36 hx hZ rfl f38 (v := (.double (FP.l2d v33))) ⟨by decide, by decide⟩ rfl (hb hby at_266) rfl ?_
    refine g_lload X36 hx (hb hby at_267) rfl rfl ?_
    refine g_l2d X36 hx (hb hby at_269) rfl  ?_
    refine g_dcmp X36 hx (hb hby at_270) rfl  ?_
    have hc271 : (cmpValue (FP.dcmp (FP.l2d v33) (FP.l2d v33)) .l) = (0 : Int32) := (dcmpV_self (nn_w rfl) _)
    refine g_ifN X36 hx (hb hby at_271) rfl (XT.i0_ne_f hc271) ?_
    refine g_aload X36 hx (hb hby at_274) rfl rfl rfl ?_
    refine g_iconst X36 hx (r := (1 : Int32)) (hb hby at_276) rfl rfl ?_
    refine g_daload X36 hx hZ rfl f38 (v := (.double (FP.l2d v43))) ⟨by decide, by decide⟩ rfl (hb hby at_277) rfl ?_
    refine g_lload X36 hx (hb hby at_278) rfl rfl ?_
    refine g_l2d X36 hx (hb hby at_280) rfl  ?_
    refine g_dcmp X36 hx (hb hby at_281) rfl  ?_
    have hc282 : (cmpValue (FP.dcmp (FP.l2d v43) (FP.l2d v43)) .l) = (0 : Int32) := (dcmpV_self (nn_w rfl) _)
    refine g_ifN X36 hx (hb hby at_282) rfl (XT.i0_ne_f hc282) ?_
    refine g_aload X36 hx (hb hby at_285) rfl rfl rfl ?_
    refine g_iconst X36 hx (r := (2 : Int32)) (hb hby at_287) rfl rfl ?_
    refine g_daload X36 hx hZ rfl f38 (v := (.double (FP.l2d v53))) ⟨by decide, by decide⟩ rfl (hb hby at_288) rfl ?_
    refine g_lload X36 hx (hb hby at_289) rfl rfl ?_
    refine g_l2d X36 hx (hb hby at_291) rfl  ?_
    refine g_dcmp X36 hx (hb hby at_292) rfl  ?_
    have hc293 : (cmpValue (FP.dcmp (FP.l2d v53) (FP.l2d v53)) .l) = (0 : Int32) := (dcmpV_self (nn_w rfl) _)
    refine g_ifN X36 hx (hb hby at_293) rfl (XT.i0_ne_f hc293) ?_
    refine g_iconst X36 hx (r := (1 : Int32)) (hb hby at_296) rfl rfl ?_
    refine g_goto X36 hx (q := 301) (hb hby at_297) (by decide) (by decide) ?_
    refine g_istore X36 hx (Ls' := #[.val (.int p0), .val (.int p1), .val (.long p2), .second, .val (.long p3), .second, .val (.int (3 : Int32)), .val (.long v8), .second, .val (.long v17), .second, .val (.long v26), .second, .val (.long v33), .second, .val (.long v43), .second, .val (.long v53), .second, .val (.long v57), .second, .val (.ref b28), .val (.ref b32), .val (.int (1 : Int32))]) (hb hby at_301) rfl rfl ?_
    refine g_iload X36 hx (hb hby at_303) rfl rfl ?_
    exact g_retN X36 hx (t := .boolean) (r := (1 : Int32)) hret (by simp) hlk (hb hby at_305) rfl (by decide) (by decide) ⟨rfl, N36⟩
set_option maxRecDepth 65536 in
set_option maxHeartbeats 40000000 in
theorem comes_1 {Post : Tables → Env → Array Value → State → Outcome → State → Prop} (hpost : ∀ tb e args s v u, (limb_1_1.after args s (.returned v) u = true ∧ limb_1_2.after args s (.returned v) u = true ∧ True) → FrameEnd s (.returned v) u (Jvm.fieldLocs frame_1_writes args s ++ Jvm.arrayLocs frame_1_arrays args s ++ Jvm.staticLocs frame_1_statics s) 16 128 → Post tb e args s (.returned v) u) :
    ArmFor flags0 classFile x code maxLocals ret World_1 tables_1 room_1 Calls_1 rest_1 Pre_1 Post := by
  intro l hfl _ _ p e ha hc hk s m args below hf hA hF happ hP
  obtain ⟨hcalls, hrest, hpre⟩ := hP
  obtain ⟨-, -, -, hnamed, -, -, -, hat⟩ := (Spec.applies_iff hf).mp happ
  obtain ⟨hg, hn⟩ := and_e (Cond.before_iff.mp (show (Jvm.Cond.and given_1 narrow_1).before args s = true from hpre))
  obtain ⟨hcn, hg1⟩ := and_e hg
  obtain ⟨k1, hg2⟩ := and_e hg1
  obtain ⟨k2, hg3⟩ := and_e hg2
  obtain ⟨k3, hg4⟩ := and_e hg3
  have k4 := hg4
  obtain ⟨w0, w1, w2, w3, rfl⟩ : ∃ w0 w1 w2 w3 : Value, args = #[w0, w1, w2, w3] := by
    have hs : args.size = 4 := by simpa [Cond.value, given_1] using hcn
    obtain ⟨L⟩ := args
    match L, hs with
    | [w0, w1, w2, w3], _ => exact ⟨w0, w1, w2, w3, rfl⟩
  have hw := fun d (hd : d ∈ tables_1) => atoms_spec (ws := Jvm.Cond.code x code maxLocals ret :: tables_1) hat d (List.mem_cons_of_mem _ hd)
  have hfit : Fit s := fun {y c} hc i hi => by
    obtain ⟨ha, rfl⟩ := Array.getElem?_eq_some_iff.mp hc
    have q := List.all_eq_true.mp ((Array.all_eq_true_iff_forall_mem.mp hF) _ (Array.getElem_mem ha)) i (List.mem_range.mpr hi)
    simpa [Array.getElem?_eq_getElem hi] using q
  obtain ⟨i0, ei0⟩ := is_v k1
  obtain rfl : w0 = (.int i0) := Option.some.inj ei0
  obtain ⟨i1, ei1⟩ := is_v k2
  obtain rfl : w1 = (.int i1) := Option.some.inj ei1
  obtain ⟨i2, ei2⟩ := isL_v k3
  obtain rfl : w2 = (.long i2) := Option.some.inj ei2
  obtain ⟨i3, ei3⟩ := isL_v k4
  obtain rfl : w3 = (.long i3) := Option.some.inj ei3
  obtain ⟨n, o, h1, h2, h3, _, L, rfl, ⟨rfl, N⟩, hq⟩ := rm_law l s _ hw tables_1 i0 i1 i2 i3 s.heap s.heap.size (Nat.le_refl _) p e ha hc hk s m _ below hf ((Spec.applies_iff_loose hf).mp happ).1 ⟨rfl, State.Warmed39.refl s, rfl⟩ trivial
  refine ⟨n, _, h1, h2, h3, hpost _ _ _ _ _ _ ⟨Cond.after_iff.mpr rfl, Cond.after_iff.mpr (eq_i res_at (Term.int_eval (1)) rfl), trivial⟩ ⟨hq.1, hq.2.1, (hq.2.2.sift fun y hy => Or.inr (N y hy)).mono (by decide) (by decide)⟩⟩
theorem main_1_1 : Claimed_1_1 := comes_1 fun _ _ _ _ _ _ h hF => ⟨h.1, hF⟩
theorem main_1_2 : Claimed_1_2 := comes_1 fun _ _ _ _ _ _ h hF => ⟨h.2.1, hF⟩
end Jvm.Pilot.@@N@@
namespace Jvm.Pilot.@@N@@
open Jvm Jvm.ClassFile Sem Op Lib Jvm.Free Jvm.Stand Jvm.Pilot.@@N@@.Jvm.D
/-! MADE BY PROGRAM (witnessworld.py) out of the Statement's table words and the real class files: 11 classes; the members and pool entries that the words name. The judged class is class 1, her method 1. -/
namespace start1
open Jvm.ClassFile
def u (s : String) : CpInfo := .utf8 (stringToUtf16 s)
/-- a pool by its gaps: so many unusable entries, then the entry; so many at the end -/
def gap : Nat → List CpInfo → List CpInfo
  | 0, r => r
  | n + 1, r => .unusable :: gap n r
def poolList (es : List (Nat × CpInfo)) (last : Nat) : List CpInfo := es.foldr (fun e r => gap e.1 (e.2 :: r)) (gap last [])
def pool (es : List (Nat × CpInfo)) (last : Nat) : Array CpInfo := ⟨poolList es last⟩
def fileOf (pool : Array CpInfo) (this : Nat) (attrs : Array Attribute := #[]) (ms : Array MethodInfo := #[]) (fl : Nat := 33) (sup : Nat := 0) (ifs : Array Nat := #[]) (fds : Array FieldInfo := #[]) : ClassFile where
  minorVersion := 0
  majorVersion := 65
  constantPool := pool
  accessFlags := fl
  thisClass := this
  superClass := sup
  interfaces := ifs
  fields := fds
  methods := ms
  attributes := attrs
def plain (name : String) (sup : Option ClassId) : Class where
  name := name
  kind := .ordinary
  loader := none
  accessFlags := 33
  super := sup
  interfaces := #[]
  cf := none
  fields := #[]
  methods := #[]
  instanceTypes := #[]
  staticTypes := #[]
  resolved := #[]
  callSites := []
  init := .initialized
  statics := none
  mirror := none

def pool0 : Array CpInfo := pool [(5, u "<init>"), (0, u "()V"), (1, .class_ 10), (1, u "java/lang/Object")] 113

def k0m0 : Method := { name := "<init>", desc := "()V", sig := { parameters := [], returnType := none }, accessFlags := 1, code := none }
/-- java/lang/Object -/
def k0 : Class := { plain "java/lang/Object" none with
  accessFlags := 33
  interfaces := #[]
  cf := some (fileOf pool0 8 #[] #[{ accessFlags := 1, nameIndex := 5, descriptorIndex := 6, attributes := #[] }] 33 0 #[] #[])
  fields := #[]
  methods := #[k0m0]
  instanceTypes := #[]
  staticTypes := #[]
  resolved := Array.replicate 124 none
  statics := none }

def pool1 : Array CpInfo := pool [(2, .class_ 4), (1, u "java/lang/Object"), (0, u "<init>"), (0, u "()V"), (0, .methodref 8 9), (0, .class_ 10), (0, .nameAndType 11 12), (0, u "com/example/dunlin/dunlin/Lbfgs"), (0, u "addScaled"), (0, u "([DD[D)V"), (0, .class_ 14), (0, u "com/example/dunlin/dunlin/LbfgsAddScaledPinLaw"), (2, u "law"), (0, u "(IIJJ)Z")] 5

def k1m0 : Method := { name := "<init>", desc := "()V", sig := { parameters := [], returnType := none }, accessFlags := 1, code := none }
def k1c1 : Code := { maxStack := 8, maxLocals := 24, code := code, exceptionTable := #[], attributes := #[] }
def k1m1 : Method := { name := "law", desc := "(IIJJ)Z", sig := { parameters := [.int, .int, .long, .long], returnType := some .boolean }, accessFlags := 9, code := some k1c1 }
/-- com/example/dunlin/dunlin/LbfgsAddScaledPinLaw -/
def k1 : Class := { plain "com/example/dunlin/dunlin/LbfgsAddScaledPinLaw" (some 0) with
  accessFlags := 49
  interfaces := #[]
  cf := some (fileOf pool1 13 #[] #[{ accessFlags := 1, nameIndex := 5, descriptorIndex := 6, attributes := #[] }, { accessFlags := 9, nameIndex := 17, descriptorIndex := 18, attributes := #[] }] 49 2 #[] #[])
  fields := #[]
  methods := #[k1m0, k1m1]
  instanceTypes := #[]
  staticTypes := #[]
  resolved := Array.replicate 24 none
  statics := none }

def pool2 : Array CpInfo := pool [(2, .class_ 4), (1, u "java/lang/Object"), (3, .class_ 10), (1, u "com/example/dunlin/dunlin/Lbfgs"), (0, u "m_aObjective"), (0, u "Lcom/example/dunlin/dunlin/Lbfgs$Objective;"), (2, u "m_nDimensions"), (0, u "I"), (2, u "m_nScale"), (7, .class_ 29), (1, u "com/example/dunlin/dunlin/Lbfgs$Objective"), (21, .class_ 53), (1, u "com/example/dunlin/dunlin/Lbfgs$Probe"), (42, .class_ 97), (0, u "com/example/dunlin/dunlin/Lbfgs$Minimum"), (76, u "addScaled"), (0, u "([DD[D)V"), (49, u "HISTORY"), (2, u "SUFFICIENT_DECREASE"), (0, u "D"), (0, u "CURVATURE"), (2, u "LINE_SEARCH_EVALUATIONS"), (1, u "CURVATURE_FLOOR")] 29

def k2c0 : Code := { maxStack := 8, maxLocals := 5, code := prog_11_method_16_code, exceptionTable := #[], attributes := #[] }
def k2m0 : Method := { name := "addScaled", desc := "([DD[D)V", sig := { parameters := [(.array .double), .double, (.array .double)], returnType := none }, accessFlags := 8, code := some k2c0 }
/-- com/example/dunlin/dunlin/Lbfgs -/
def k2 : Class := { plain "com/example/dunlin/dunlin/Lbfgs" (some 0) with
  accessFlags := 48
  interfaces := #[]
  cf := some (fileOf pool2 8 #[.nestMembers #[51, 96, 27]] #[{ accessFlags := 8, nameIndex := 174, descriptorIndex := 175, attributes := #[] }] 48 2 #[] #[{ accessFlags := 26, nameIndex := 225, descriptorIndex := 16, attributes := #[] }, { accessFlags := 26, nameIndex := 228, descriptorIndex := 229, attributes := #[] }, { accessFlags := 26, nameIndex := 230, descriptorIndex := 229, attributes := #[] }, { accessFlags := 26, nameIndex := 233, descriptorIndex := 16, attributes := #[] }, { accessFlags := 26, nameIndex := 235, descriptorIndex := 229, attributes := #[] }, { accessFlags := 18, nameIndex := 11, descriptorIndex := 12, attributes := #[] }, { accessFlags := 18, nameIndex := 15, descriptorIndex := 16, attributes := #[] }, { accessFlags := 18, nameIndex := 19, descriptorIndex := 16, attributes := #[] }])
  fields := #[{ name := "HISTORY", type := .int, accessFlags := 26, slot := 0, constantValue := 0 }, { name := "SUFFICIENT_DECREASE", type := .double, accessFlags := 26, slot := 1, constantValue := 0 }, { name := "CURVATURE", type := .double, accessFlags := 26, slot := 2, constantValue := 0 }, { name := "LINE_SEARCH_EVALUATIONS", type := .int, accessFlags := 26, slot := 3, constantValue := 0 }, { name := "CURVATURE_FLOOR", type := .double, accessFlags := 26, slot := 4, constantValue := 0 }, { name := "m_aObjective", type := (.object "com/example/dunlin/dunlin/Lbfgs$Objective"), accessFlags := 18, slot := 0, constantValue := 0 }, { name := "m_nDimensions", type := .int, accessFlags := 18, slot := 1, constantValue := 0 }, { name := "m_nScale", type := .int, accessFlags := 18, slot := 2, constantValue := 0 }]
  methods := #[k2m0]
  instanceTypes := #[(.object "com/example/dunlin/dunlin/Lbfgs$Objective"), .int, .int]
  staticTypes := #[.int, .double, .double, .int, .double]
  resolved := Array.replicate 265 none
  statics := none }

def pool3 : Array CpInfo := pool [(1, u "java/lang/Cloneable"), (0, .class_ 1), (0, u "java/lang/Object"), (0, .class_ 3)] 3

/-- java/lang/Cloneable -/
def k3 : Class := { plain "java/lang/Cloneable" (some 0) with
  accessFlags := 1537
  interfaces := #[]
  cf := some (fileOf pool3 2 #[] #[] 1537 4 #[] #[])
  fields := #[]
  methods := #[]
  instanceTypes := #[]
  staticTypes := #[]
  resolved := Array.replicate 8 none
  statics := none }

def pool4 : Array CpInfo := pool [(1, u "java/io/Serializable"), (0, .class_ 1), (0, u "java/lang/Object"), (0, .class_ 3)] 3

/-- java/io/Serializable -/
def k4 : Class := { plain "java/io/Serializable" (some 0) with
  accessFlags := 1537
  interfaces := #[]
  cf := some (fileOf pool4 2 #[] #[] 1537 4 #[] #[])
  fields := #[]
  methods := #[]
  instanceTypes := #[]
  staticTypes := #[]
  resolved := Array.replicate 8 none
  statics := none }

/-- the primitive byte -/
def k5 : Class := { plain "byte" none with kind := .primitive 'B', accessFlags := 0x411 }
/-- [B -/
def k6 : Class := { plain "[B" (some 0) with kind := .array 5 .byte, interfaces := #[3, 4], accessFlags := 1041 }

/-- the primitive double -/
def k7 : Class := { plain "double" none with kind := .primitive 'D', accessFlags := 0x411 }
/-- [D -/
def k8 : Class := { plain "[D" (some 0) with kind := .array 7 .double, interfaces := #[3, 4], accessFlags := 1041 }

/-- the primitive int -/
def k9 : Class := { plain "int" none with kind := .primitive 'I', accessFlags := 0x411 }
/-- [I -/
def k10 : Class := { plain "[I" (some 0) with kind := .array 9 .int, interfaces := #[3, 4], accessFlags := 1041 }

def heap : Heap := #[]
def classes : Array Class := #[k0, k1, k2, k3, k4, k5, k6, k7, k8, k9, k10]
def interned : List (Array UInt16 × Addr) := []
def slotsUsed : Nat := 0
def theMethod : MethodId := ⟨1, 1⟩
def args0 : Array Value := #[.int 3, .int 5, .long 5, .long 7]
def aboutOver (below : List Frame) : State where
  vm := { classes := classes, interned := interned.toArray }
  heap := heap
  slotsUsed := slotsUsed
  threads := #[{ frames := .invoking theMethod args0 :: below }]
def below0 : List Frame := [.native { method := ⟨0, 0⟩, args := #[] }]
def about1 : State := aboutOver below0
def p0 : Program := .bare "" "" ""
def e0 : Env := launch0.env 0 0 0
theorem w_frames : about1.frames = Frame.invoking theMethod args0 :: below0 := rfl
set_option maxRecDepth 65536 in
theorem w_args : argsFit about1.vm theMethod args0 = true := by decide +kernel
set_option maxRecDepth 65536 in
theorem w_heap : heapFits about1 = true := by decide +kernel
set_option maxRecDepth 65536 in
theorem w_runnable : about1.curStatus? = some .runnable := by decide +kernel
set_option maxRecDepth 65536 in
theorem w_alone : about1.alone = true := by decide +kernel
set_option maxRecDepth 65536 in
theorem w_named : about1.methodNamed? x = some theMethod := by decide +kernel
set_option maxRecDepth 65536 in
theorem w_hears : about1.hears theMethod below0 = true := by decide +kernel
set_option maxRecDepth 65536 in
theorem w_ripe : about1.ripe theMethod args0 below0 = true := by decide +kernel
theorem w_running : about1.status = .running := rfl
set_option maxRecDepth 65536 in
theorem w_room : about1.hasRoom e0.platform room_1 = true :=
  launch0.hasRoom_least _ room_1 (by decide +kernel) (by decide +kernel) (by decide +kernel) (by decide +kernel) (by decide +kernel) (by decide +kernel)
theorem allAtoms_all (ts : List Jvm.Cond) (a : Array Jvm.Value) (st : Jvm.State) : (allAtoms ts).before a st = ts.all (fun c => c.before a st) := by
  induction ts with
  | nil => rfl
  | cons c t ih =>
    show (Jvm.Cond.and c (allAtoms t)).before a st = _
    rw [Jvm.Cond.before_and, ih, List.all_cons]
def words1 : List Jvm.Cond := Jvm.Cond.code x code maxLocals ret :: tables_1
/-- a 'code' word, met by the world's own term for the bytes: nothing is compared byte by byte -/
theorem code_word {y : MethodName} {bytes : ByteArray} {mx : Nat} {rt : Option FieldType} {a : Array Value} {s : State} {m : MethodId} {meth : Method} {c : Code} (h1 : s.methodNamed? y = some m) (h2 : s.vm.method? m = some meth) (h3 : meth.code = some c) (h4 : c.code = bytes)
    (h5 : (c.maxLocals == mx && c.exceptionTable.isEmpty && decide (c.maxStack ≤ mostOperands) && decide (meth.sig.returnType = rt) && !meth.locks && decide (parseMethodDescriptor y.desc = some meth.sig)) = true) : (Jvm.Cond.code y bytes mx rt).before a s = true := by
  simp only [Bool.and_eq_true, beq_iff_eq, Bool.not_eq_true', decide_eq_true_eq] at h5
  obtain ⟨⟨⟨⟨⟨g1, g2⟩, g3⟩, g4⟩, g5⟩, g6⟩ := h5
  simp [Cond.before, Cond.holds, Cond.value, h1, h2, h3, h4, g1, g2, g3, g4, g5, g6]
def isCode : Jvm.Cond → Bool
  | .code _ _ _ _ => true
  | _ => false
theorem all_split {L : List Jvm.Cond} {P : Jvm.Cond → Bool} (h1 : L.all (fun c => isCode c || P c) = true) (h2 : ∀ c ∈ L.filter isCode, P c = true) : L.all P = true := by
  refine List.all_eq_true.mpr fun c hc => ?_
  have h := List.all_eq_true.mp h1 c hc
  rcases Bool.eq_false_or_eq_true (isCode c) with hi | hi
  · exact h2 c (List.mem_filter.mpr ⟨hc, hi⟩)
  · simpa [hi] using h
set_option maxRecDepth 65536 in
theorem w_c0 : (Jvm.Cond.code x code maxLocals ret).before args0 about1 = true := code_word (m := ⟨1, 1⟩) (meth := k1m1) (c := k1c1) (by decide +kernel) rfl rfl rfl (by decide +kernel)
set_option maxRecDepth 65536 in
theorem w_c1 : (Jvm.Cond.code ({ cls := "com/example/dunlin/dunlin/Lbfgs", name := "addScaled", desc := "([DD[D)V" } : Jvm.MethodName) prog_11_method_16_code (5 : Nat) (Option.none : Option Jvm.ClassFile.FieldType)).before args0 about1 = true := code_word (m := ⟨2, 0⟩) (meth := k2m0) (c := k2c0) (by decide +kernel) rfl rfl rfl (by decide +kernel)
def codes1 : List Jvm.Cond := [Jvm.Cond.code x code maxLocals ret, Jvm.Cond.code ({ cls := "com/example/dunlin/dunlin/Lbfgs", name := "addScaled", desc := "([DD[D)V" } : Jvm.MethodName) prog_11_method_16_code (5 : Nat) (Option.none : Option Jvm.ClassFile.FieldType)]
set_option maxRecDepth 65536 in
theorem codes_eq : words1.filter isCode = codes1 := rfl
theorem w_codes : ∀ c ∈ words1.filter isCode, c.before args0 about1 = true := by
  rw [codes_eq]
  intro c hc
  simp only [codes1, List.mem_cons, List.not_mem_nil, or_false] at hc
  rcases hc with rfl | rfl
  · exact w_c0
  · exact w_c1
set_option maxRecDepth 65536 in
theorem w_t1 : words1.all (fun c => isCode c || c.before args0 about1) = true := by decide +kernel
theorem w_tables : (allAtoms (Jvm.Cond.code x code maxLocals ret :: tables_1)).before args0 about1 = true := by
  rw [allAtoms_all]
  show words1.all (fun c => c.before args0 about1) = true
  refine all_split ?_ w_codes
  rw [w_t1]
set_option maxRecDepth 65536 in
theorem w_case : (Jvm.Cond.and given_1 narrow_1).before args0 about1 = true := by decide +kernel
theorem w_applies : (headSpec (Jvm.Cond.code x code maxLocals ret :: tables_1) room_1).applies x e0.platform about1 = true :=
  (Spec.applies_iff w_frames).mpr ⟨w_running, w_runnable, w_alone, w_named, w_hears, w_ripe, w_room, w_tables⟩
theorem atStart : AtStart classFile x code maxLocals ret World_1 tables_1 room_1 Calls_1 rest_1 Pre_1 launch0 p0 e0 about1 theMethod args0 below0 :=
  ⟨lists_1, trivial, launch0.admits_env _ _ _, launch0.least_env, fairChoices_fair.cas, fairChoices_fair.clock, w_frames, w_args, w_heap, w_applies, trivial, trivial, w_case⟩
end start1
theorem witness_1 : WitnessClaimed_1 := ⟨start1.p0, start1.e0, start1.about1, start1.theMethod, start1.args0, start1.below0, start1.atStart⟩
end Jvm.Pilot.@@N@@
